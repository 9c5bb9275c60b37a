import JvmDerived
import JvmDerived.Pilot.@@N@@Statement
import JvmDerived.Pilot.@@N@@Code
set_option linter.unusedVariables false
set_option linter.unusedSimpArgs false

namespace Jvm.RoadKit
open Sem ClassFile Op Lib Jvm.Stand Jvm.Free Jvm.LawKit
section New
variable {p : Program} {l : Launch} {e : Env} {R : Room} {s : State} {m : MethodId} {args : Array Value} {below : List Frame} {meth : Method} {c : Code} {T : State} {locs : List Loc} {cells slots : Nat}
theorem retI (X : Stand p l e R s m args below meth c T locs cells slots) (hx : p.tables.exec = Jvm.exec) {pc : Nat} {Ls : Array Slot} {z : Int32} {rest : List Value} (hret : meth.sig.returnType = some .int) (hd : decode c.code pc = .ok (.ireturn, 1)) {fs : List Frame}
    (hl : ∀ (f : JFrame) (acts : List Action), f.method = m → f.locked = none → f.entered = [] → (doReturn e (T.setTop f) acts (some (.int z))).1 = T.setFrames fs) : Steps p.tables e below (T.setTop (mkF m pc Ls (.int z :: rest))) (T.setFrames fs) := by
  have hm' : T.vm.method? m = some meth := X.method'
  have hn : narrow .int (.int z) = .int z := rfl
  show Steps p.tables e below (T.setTop { method := m, pc := pc, locals := Ls, stack := _ :: rest, locked := none }) _
  jvm_step X.here [X.here.top, hx, hd, hm', hret, hn]
  first | (intro acts; rw [hl _ acts rfl rfl rfl]) | rw [hl _ _ rfl rfl rfl]
  exact Steps.refl _
end New
end Jvm.RoadKit

namespace Jvm.Pilot.@@N@@
open Jvm Jvm.ClassFile Sem Op Lib Jvm.Free Jvm.Stand Jvm.LawKit Jvm.RoadKit Bundle Jvm.Pilot.@@N@@.Jvm.D
def own_st (h v : Int64) : Int64 := (h + v) * (-7046029254386353131 : Int64)
def own_mx (h : Int64) : Int64 := (h ^^^ XT.ushrL h 33) * (-49064778989728563 : Int64)
def own_fin (h : Int64) : Int64 := own_mx h ^^^ XT.ushrL (own_mx h) 33
theorem own_mulinj {c d x y : Int64} (hc : c * d = 1) (h : x * c = y * c) : x = y := by
  have e : x * c * d = y * c * d := by rw [h]
  rw [Int64.mul_assoc, Int64.mul_assoc, hc, Int64.mul_one, Int64.mul_one] at e
  exact e
theorem own_addinj {x y v : Int64} (h : x + v = y + v) : x = y := by
  have e : x + v - v = y + v - v := by rw [h]
  simpa using e
theorem own_addinj' {x y h0 : Int64} (h : h0 + x = h0 + y) : x = y := by
  rw [Int64.add_comm h0 x, Int64.add_comm h0 y] at h
  exact own_addinj h
theorem own_st_l {h h' v : Int64} (q : own_st h v = own_st h' v) : h = h' := own_addinj (own_mulinj (d := (-1018231460777725123 : Int64)) (by decide) q)
theorem own_st_r {h v v' : Int64} (q : own_st h v = own_st h v') : v = v' := own_addinj' (own_mulinj (d := (-1018231460777725123 : Int64)) (by decide) q)
theorem own_ush (x : Int64) : (XT.ushrL x 33).toBitVec = x.toBitVec >>> 33 := by
  unfold XT.ushrL
  rfl
theorem own_xs {x y : Int64} (h : x ^^^ XT.ushrL x 33 = y ^^^ XT.ushrL y 33) : x = y := by
  have e : (x.toBitVec ^^^ (x.toBitVec >>> 33)) = (y.toBitVec ^^^ (y.toBitVec >>> 33)) := by
    have := congrArg Int64.toBitVec h
    simpa [own_ush] using this
  have k : ∀ z : BitVec 64, (z ^^^ (z >>> 33)) ^^^ ((z ^^^ (z >>> 33)) >>> 33) = z := by
    intro z
    apply BitVec.eq_of_getLsbD_eq
    intro i hi
    simp only [BitVec.getLsbD_xor, BitVec.getLsbD_ushiftRight]
    have : z.getLsbD (33 + (33 + i)) = false := BitVec.getLsbD_of_ge _ _ (by omega)
    rw [this]; simp
  have : x.toBitVec = y.toBitVec := by rw [← k x.toBitVec, ← k y.toBitVec, e]
  exact Int64.toBitVec_inj.mp this
theorem own_fininj {x y : Int64} (h : own_fin x = own_fin y) : x = y := own_xs (own_mulinj (d := (5725274745694666757 : Int64)) (by decide) (own_xs h))
theorem d1_0 : decode method_2_code 0 = .ok (.iload_n 0, 1) := by decide +kernel
theorem d1_1 : decode method_2_code 1 = .ok (.newarray .long, 2) := by decide +kernel
theorem d1_3 : decode method_2_code 3 = .ok (.astore 7, 2) := by decide +kernel
theorem d1_5 : decode method_2_code 5 = .ok (.iload_n 0, 1) := by decide +kernel
theorem d1_6 : decode method_2_code 6 = .ok (.ifCond .le 8, 3) := by decide +kernel
theorem d1_14 : decode method_2_code 14 = .ok (.iload_n 0, 1) := by decide +kernel
theorem d1_15 : decode method_2_code 15 = .ok (.iconst 1, 1) := by decide +kernel
theorem d1_16 : decode method_2_code 16 = .ok (.if_icmp .le 8, 3) := by decide +kernel
theorem d1_24 : decode method_2_code 24 = .ok (.iload_n 0, 1) := by decide +kernel
theorem d1_25 : decode method_2_code 25 = .ok (.iconst 2, 1) := by decide +kernel
theorem d1_26 : decode method_2_code 26 = .ok (.if_icmp .le 9, 3) := by decide +kernel
theorem d1_35 : decode method_2_code 35 = .ok (.aload 7, 2) := by decide +kernel
theorem d1_37 : decode method_2_code 37 = .ok (.areturn, 1) := by decide +kernel
theorem pn_StateSpaceHashPinLaw : plainName "com/example/bare_refinement/barerefinement/exploration/StateSpaceHashPinLaw" = true := by first | (simp [plainName, overriddenIn]; done) | decide +kernel
def QrmMake0 (Z : State) (q1 : Int64) (q2 : Int64) (q3 : Int64) (h0 : Heap) (n0 : Nat) (v : Option Value) (h : Heap) (L : List Loc) : Prop := ∃ (b : Addr) (k : ClassId), v = some (.ref b) ∧ Fr n0 L ∧ h0.size ≤ b ∧ Keep h0 h [] ∧ Arv Z h b k .long (0 : Int32) [] (.long (0 : Int64))
set_option maxRecDepth 65536 in
set_option maxHeartbeats 40000000 in
theorem rmMake0 (l : Launch) (Z : State) (av0 : Array Value) (hw : ∀ d ∈ tables_1, d.before av0 Z = true) (ws : List Jvm.Cond) (q1 : Int64) (q2 : Int64) (q3 : Int64) (h0 : Heap) (n0 : Nat) (Z0 : n0 ≤ h0.size)  :
    MetFree l (⟨"com/example/bare_refinement/barerefinement/exploration/StateSpaceHashPinLaw", "make", "(IJJJ)[J"⟩ : MethodName) (head1 (Jvm.Cond.code (⟨"com/example/bare_refinement/barerefinement/exploration/StateSpaceHashPinLaw", "make", "(IJJJ)[J"⟩ : MethodName) method_2_code 8 (some (.array .long)) :: ws) ({ frames := 0, cells := 1, slots := 0, locals := 0 } : Room)) (fun aU U => aU = #[(.int (0 : Int32)), (.long q1), (.long q2), (.long q3)] ∧ Z.Warmed39 U.vm ∧ U.heap = h0) (fun _ _ _ _ _ => True) (fun _ U oU U' => ∃ vU LU, oU = .returned vU ∧ QrmMake0 Z q1 q2 q3 h0 n0 vU U'.heap LU ∧ FrameEnd U oU U' LU ({ frames := 0, cells := 1, slots := 0, locals := 0 } : Room).cells ({ frames := 0, cells := 1, slots := 0, locals := 0 } : Room).slots) := by
  refine MetFree.of_bodySF (plainFor_of_name pn_StateSpaceHashPinLaw) hisR ?_
  intro p e s m args below meth c s₁ Bd hml0 hP hK
  obtain ⟨rfl, hZ, hh⟩ := hP
  have hx := Bd.exec
  have hby := Bd.bytes
  have hml : c.maxLocals = 8 := hml0
  have hown : s.vm.findClass "com/example/bare_refinement/barerefinement/exploration/StateSpaceHashPinLaw" = some m.cls := findClass_of_methodNamed Bd.named
  have hnm := (name_of_methodNamed Bd.named Bd.method).1
  have X0 : Stand p l e ({ frames := 0, cells := 1, slots := 0, locals := 0 } : Room) s m #[(.int (0 : Int32)), (.long q1), (.long q2), (.long q3)] below meth c s₁ [] 0 0 := Stand.of_body Bd
  have e0 : s₁.heap = h0 := by rw [← hh, Bd.state]; rfl
  have N0 := Fr.nil n0
  have pre0 : ∀ t, Steps p.tables e below (s₁.setTop (mkF m 0 #[.val (.int (0 : Int32)), .val (.long q1), .second, .val (.long q2), .second, .val (.long q3), .second, .unset] [])) t → Steps p.tables e below (s₁.setTop (entryFrame m #[(.int (0 : Int32)), (.long q1), (.long q2), (.long q3)] 8)) t := fun t k => castTop (by first | (simp [entryFrame, mkF, argsToLocals, Value.category]; done) | rfl) k
  obtain ⟨T1, h1, k1, X1, e1, E1, A1, st1⟩ := newP X0 hx hZ (hw _ (List.mem_of_getElem? (i := 4) rfl)) e0 (g := (mkF m 1 #[.val (.int (0 : Int32)), .val (.long q1), .second, .val (.long q2), .second, .val (.long q3), .second, .unset] [(.int (0 : Int32))])) rfl (hb hby d1_1) rfl (by decide) (cap := 0) (by decide) (by decide) (by decide) (by decide)
  obtain ⟨b1, g1⟩ : ∃ z, z = h0.size := ⟨_, rfl⟩
  rw [← g1] at A1 st1
  have ge_b1 : n0 ≤ b1 := Nat.le_trans Z0 (Nat.le_of_eq g1.symm)
  have sz_b1 : h0.size ≤ b1 := Nat.le_of_eq g1.symm
  have Z1 : n0 ≤ h1.size := Nat.le_trans Z0 E1.1
  have K1 : Keep h0 h1 [] := (Keep.refl h0 []).ext E1
  have V1 : Arv Z h1 b1 k1 .long (0 : Int32) [] (.long (0 : Int64)) := Arv.new A1 (by decide)
  have S2 : ∀ t, Steps p.tables e below (T1.setTop (mkF m 37 #[.val (.int (0 : Int32)), .val (.long q1), .second, .val (.long q2), .second, .val (.long q3), .second, .val (.ref b1)] [(.ref b1)])) t → Steps p.tables e below (s₁.setTop (mkF m 0 #[.val (.int (0 : Int32)), .val (.long q1), .second, .val (.long q2), .second, .val (.long q3), .second, .unset] [])) t := fun t k => id (by
    show Steps p.tables e below (s₁.setTop (mkF m 0 #[.val (.int (0 : Int32)), .val (.long q1), .second, .val (.long q2), .second, .val (.long q3), .second, .unset] [])) _
    refine XS.iloadN X0.here hx rfl (hb hby d1_0) rfl ?_
    show Steps p.tables e below (s₁.setTop (mkF m 1 #[.val (.int (0 : Int32)), .val (.long q1), .second, .val (.long q2), .second, .val (.long q3), .second, .unset] [(.int (0 : Int32))])) _
    refine st1 _ ?_
    show Steps p.tables e below (T1.setTop (mkF m 3 #[.val (.int (0 : Int32)), .val (.long q1), .second, .val (.long q2), .second, .val (.long q3), .second, .unset] [(.ref b1)])) _
    refine XS.astore X1.here hx rfl (hb hby d1_3) rfl rfl (l' := #[.val (.int (0 : Int32)), .val (.long q1), .second, .val (.long q2), .second, .val (.long q3), .second, .val (.ref b1)]) rfl ?_
    show Steps p.tables e below (T1.setTop (mkF m 5 #[.val (.int (0 : Int32)), .val (.long q1), .second, .val (.long q2), .second, .val (.long q3), .second, .val (.ref b1)] [])) _
    refine XS.iloadN X1.here hx rfl (hb hby d1_5) rfl ?_
    show Steps p.tables e below (T1.setTop (mkF m 6 #[.val (.int (0 : Int32)), .val (.long q1), .second, .val (.long q2), .second, .val (.long q3), .second, .val (.ref b1)] [(.int (0 : Int32))])) _
    refine XS.ifYes X1.here hx rfl (pc0 := 6) (pc' := 14) rfl (hb hby d1_6) rfl (XT.i0_le_t (by decide)) (by decide) (by decide) ?_
    show Steps p.tables e below (T1.setTop (mkF m 14 #[.val (.int (0 : Int32)), .val (.long q1), .second, .val (.long q2), .second, .val (.long q3), .second, .val (.ref b1)] [])) _
    refine XS.iloadN X1.here hx rfl (hb hby d1_14) rfl ?_
    show Steps p.tables e below (T1.setTop (mkF m 15 #[.val (.int (0 : Int32)), .val (.long q1), .second, .val (.long q2), .second, .val (.long q3), .second, .val (.ref b1)] [(.int (0 : Int32))])) _
    refine XT.iconstV X1.here hx rfl (1 : Int32) (hb hby d1_15) (by decide) ?_
    show Steps p.tables e below (T1.setTop (mkF m 16 #[.val (.int (0 : Int32)), .val (.long q1), .second, .val (.long q2), .second, .val (.long q3), .second, .val (.ref b1)] [(.int (1 : Int32)), (.int (0 : Int32))])) _
    refine XS.icmpYes X1.here hx rfl (pc0 := 16) (pc' := 24) rfl (hb hby d1_16) rfl (XT.ii_le_t (by decide)) (by decide) (by decide) ?_
    show Steps p.tables e below (T1.setTop (mkF m 24 #[.val (.int (0 : Int32)), .val (.long q1), .second, .val (.long q2), .second, .val (.long q3), .second, .val (.ref b1)] [])) _
    refine XS.iloadN X1.here hx rfl (hb hby d1_24) rfl ?_
    show Steps p.tables e below (T1.setTop (mkF m 25 #[.val (.int (0 : Int32)), .val (.long q1), .second, .val (.long q2), .second, .val (.long q3), .second, .val (.ref b1)] [(.int (0 : Int32))])) _
    refine XT.iconstV X1.here hx rfl (2 : Int32) (hb hby d1_25) (by decide) ?_
    show Steps p.tables e below (T1.setTop (mkF m 26 #[.val (.int (0 : Int32)), .val (.long q1), .second, .val (.long q2), .second, .val (.long q3), .second, .val (.ref b1)] [(.int (2 : Int32)), (.int (0 : Int32))])) _
    refine XS.icmpYes X1.here hx rfl (pc0 := 26) (pc' := 35) rfl (hb hby d1_26) rfl (XT.ii_le_t (by decide)) (by decide) (by decide) ?_
    show Steps p.tables e below (T1.setTop (mkF m 35 #[.val (.int (0 : Int32)), .val (.long q1), .second, .val (.long q2), .second, .val (.long q3), .second, .val (.ref b1)] [])) _
    refine XS.aload X1.here hx rfl (hb hby d1_35) rfl rfl ?_
    show Steps p.tables e below (T1.setTop (mkF m 37 #[.val (.int (0 : Int32)), .val (.long q1), .second, .val (.long q2), .second, .val (.long q3), .second, .val (.ref b1)] [(.ref b1)])) _
    exact k)
  obtain ⟨fs, hr, hrun, hended, hW, hsame⟩ := X1.leave (v := some (.ref b1)) (fun h => by rw [Bd.returns] at h; cases h)
  refine ⟨_, _, pre0 _ (S2 _ ?_), hrun, hended, _, _, rfl, ?_, ⟨_, rfl⟩, hW, hsame.mono (by decide) (by decide)⟩
  · jvm_step X1.here [X1.here.top, hx, (hb hby d1_37), X1.method', Bd.returns, Value.isRef, FieldType.isReference]
    first | (intro acts; rw [hr _ acts rfl rfl rfl]) | rw [hr _ _ rfl rfl rfl]
    exact Steps.refl _
  · show QrmMake0 Z q1 q2 q3 h0 n0 _ T1.heap _
    rw [e1]
    exact ⟨b1, _, rfl, N0, sz_b1, K1, V1⟩
theorem d1_9 : decode method_2_code 9 = .ok (.aload 7, 2) := by decide +kernel
theorem d1_11 : decode method_2_code 11 = .ok (.iconst 0, 1) := by decide +kernel
theorem d1_12 : decode method_2_code 12 = .ok (.lload_n 1, 1) := by decide +kernel
theorem d1_13 : decode method_2_code 13 = .ok (.lastore, 1) := by decide +kernel
def QrmMake1 (Z : State) (q1 : Int64) (q2 : Int64) (q3 : Int64) (h0 : Heap) (n0 : Nat) (v : Option Value) (h : Heap) (L : List Loc) : Prop := ∃ (b : Addr) (k : ClassId), v = some (.ref b) ∧ Fr n0 L ∧ h0.size ≤ b ∧ Keep h0 h [] ∧ Arv Z h b k .long (1 : Int32) [(.long q1)] (.long (0 : Int64))
set_option maxRecDepth 65536 in
set_option maxHeartbeats 40000000 in
theorem rmMake1 (l : Launch) (Z : State) (av0 : Array Value) (hw : ∀ d ∈ tables_1, d.before av0 Z = true) (ws : List Jvm.Cond) (q1 : Int64) (q2 : Int64) (q3 : Int64) (h0 : Heap) (n0 : Nat) (Z0 : n0 ≤ h0.size)  :
    MetFree l (⟨"com/example/bare_refinement/barerefinement/exploration/StateSpaceHashPinLaw", "make", "(IJJJ)[J"⟩ : MethodName) (head1 (Jvm.Cond.code (⟨"com/example/bare_refinement/barerefinement/exploration/StateSpaceHashPinLaw", "make", "(IJJJ)[J"⟩ : MethodName) method_2_code 8 (some (.array .long)) :: ws) ({ frames := 0, cells := 1, slots := 1, locals := 0 } : Room)) (fun aU U => aU = #[(.int (1 : Int32)), (.long q1), (.long q2), (.long q3)] ∧ Z.Warmed39 U.vm ∧ U.heap = h0) (fun _ _ _ _ _ => True) (fun _ U oU U' => ∃ vU LU, oU = .returned vU ∧ QrmMake1 Z q1 q2 q3 h0 n0 vU U'.heap LU ∧ FrameEnd U oU U' LU ({ frames := 0, cells := 1, slots := 1, locals := 0 } : Room).cells ({ frames := 0, cells := 1, slots := 1, locals := 0 } : Room).slots) := by
  refine MetFree.of_bodySF (plainFor_of_name pn_StateSpaceHashPinLaw) hisR ?_
  intro p e s m args below meth c s₁ Bd hml0 hP hK
  obtain ⟨rfl, hZ, hh⟩ := hP
  have hx := Bd.exec
  have hby := Bd.bytes
  have hml : c.maxLocals = 8 := hml0
  have hown : s.vm.findClass "com/example/bare_refinement/barerefinement/exploration/StateSpaceHashPinLaw" = some m.cls := findClass_of_methodNamed Bd.named
  have hnm := (name_of_methodNamed Bd.named Bd.method).1
  have X0 : Stand p l e ({ frames := 0, cells := 1, slots := 1, locals := 0 } : Room) s m #[(.int (1 : Int32)), (.long q1), (.long q2), (.long q3)] below meth c s₁ [] 0 0 := Stand.of_body Bd
  have e0 : s₁.heap = h0 := by rw [← hh, Bd.state]; rfl
  have N0 := Fr.nil n0
  have pre0 : ∀ t, Steps p.tables e below (s₁.setTop (mkF m 0 #[.val (.int (1 : Int32)), .val (.long q1), .second, .val (.long q2), .second, .val (.long q3), .second, .unset] [])) t → Steps p.tables e below (s₁.setTop (entryFrame m #[(.int (1 : Int32)), (.long q1), (.long q2), (.long q3)] 8)) t := fun t k => castTop (by first | (simp [entryFrame, mkF, argsToLocals, Value.category]; done) | rfl) k
  obtain ⟨T1, h1, k1, X1, e1, E1, A1, st1⟩ := newP X0 hx hZ (hw _ (List.mem_of_getElem? (i := 4) rfl)) e0 (g := (mkF m 1 #[.val (.int (1 : Int32)), .val (.long q1), .second, .val (.long q2), .second, .val (.long q3), .second, .unset] [(.int (1 : Int32))])) rfl (hb hby d1_1) rfl (by decide) (cap := 1) (by decide) (by decide) (by decide) (by decide)
  obtain ⟨b1, g1⟩ : ∃ z, z = h0.size := ⟨_, rfl⟩
  rw [← g1] at A1 st1
  have ge_b1 : n0 ≤ b1 := Nat.le_trans Z0 (Nat.le_of_eq g1.symm)
  have sz_b1 : h0.size ≤ b1 := Nat.le_of_eq g1.symm
  have Z1 : n0 ≤ h1.size := Nat.le_trans Z0 E1.1
  have K1 : Keep h0 h1 [] := (Keep.refl h0 []).ext E1
  have V1 : Arv Z h1 b1 k1 .long (1 : Int32) [(.long (0 : Int64))] (.long (0 : Int64)) := (Arv.new A1 (by decide)).pad (pad_rep [] (.long (0 : Int64)) 1)
  obtain ⟨cl2, Ar2, qk2, Sz2, Ng2, Hs2, Gs2⟩ := id V1
  have hin2 : ¬ ((0 : Int32) < 0 ∨ cl2.slots.size ≤ ((0 : Int32)).toNatClampNeg) := inb_of Sz2 ⟨by decide, by decide⟩
  obtain ⟨T3, h3, X3, e3, W3, st3⟩ := stJ X1 hx hZ e1 Ar2 (j := (0 : Int32)) hin2 (g := (mkF m 13 #[.val (.int (1 : Int32)), .val (.long q1), .second, .val (.long q2), .second, .val (.long q3), .second, .val (.ref b1)] [(.long q1), (.int (0 : Int32)), (.ref b1)])) rfl rfl (hb hby d1_13)
  have N3 := Fr.snoc X3 N0 ge_b1
  have Z3 : n0 ≤ h3.size := Nat.le_trans Z1 (Nat.le_of_eq W3.size.symm)
  have K3 : Keep h0 h3 [] := K1.wr W3 (Or.inr sz_b1)
  have V3 : Arv Z h3 b1 k1 .long (1 : Int32) [(.long q1)] (.long (0 : Int64)) := Arv.set Ar2 qk2 Sz2 Ng2 Hs2 Gs2 rfl W3 0 rfl (Nat.le_of_ble_eq_true rfl)
  have S4 : ∀ t, Steps p.tables e below (T3.setTop (mkF m 37 #[.val (.int (1 : Int32)), .val (.long q1), .second, .val (.long q2), .second, .val (.long q3), .second, .val (.ref b1)] [(.ref b1)])) t → Steps p.tables e below (s₁.setTop (mkF m 0 #[.val (.int (1 : Int32)), .val (.long q1), .second, .val (.long q2), .second, .val (.long q3), .second, .unset] [])) t := fun t k => id (by
    show Steps p.tables e below (s₁.setTop (mkF m 0 #[.val (.int (1 : Int32)), .val (.long q1), .second, .val (.long q2), .second, .val (.long q3), .second, .unset] [])) _
    refine XS.iloadN X0.here hx rfl (hb hby d1_0) rfl ?_
    show Steps p.tables e below (s₁.setTop (mkF m 1 #[.val (.int (1 : Int32)), .val (.long q1), .second, .val (.long q2), .second, .val (.long q3), .second, .unset] [(.int (1 : Int32))])) _
    refine st1 _ ?_
    show Steps p.tables e below (T1.setTop (mkF m 3 #[.val (.int (1 : Int32)), .val (.long q1), .second, .val (.long q2), .second, .val (.long q3), .second, .unset] [(.ref b1)])) _
    refine XS.astore X1.here hx rfl (hb hby d1_3) rfl rfl (l' := #[.val (.int (1 : Int32)), .val (.long q1), .second, .val (.long q2), .second, .val (.long q3), .second, .val (.ref b1)]) rfl ?_
    show Steps p.tables e below (T1.setTop (mkF m 5 #[.val (.int (1 : Int32)), .val (.long q1), .second, .val (.long q2), .second, .val (.long q3), .second, .val (.ref b1)] [])) _
    refine XS.iloadN X1.here hx rfl (hb hby d1_5) rfl ?_
    show Steps p.tables e below (T1.setTop (mkF m 6 #[.val (.int (1 : Int32)), .val (.long q1), .second, .val (.long q2), .second, .val (.long q3), .second, .val (.ref b1)] [(.int (1 : Int32))])) _
    refine XS.ifNo X1.here hx rfl (hb hby d1_6) rfl (XT.i0_le_f (by decide)) ?_
    show Steps p.tables e below (T1.setTop (mkF m 9 #[.val (.int (1 : Int32)), .val (.long q1), .second, .val (.long q2), .second, .val (.long q3), .second, .val (.ref b1)] [])) _
    refine XS.aload X1.here hx rfl (hb hby d1_9) rfl rfl ?_
    show Steps p.tables e below (T1.setTop (mkF m 11 #[.val (.int (1 : Int32)), .val (.long q1), .second, .val (.long q2), .second, .val (.long q3), .second, .val (.ref b1)] [(.ref b1)])) _
    refine XT.iconstV X1.here hx rfl (0 : Int32) (hb hby d1_11) (by decide) ?_
    show Steps p.tables e below (T1.setTop (mkF m 12 #[.val (.int (1 : Int32)), .val (.long q1), .second, .val (.long q2), .second, .val (.long q3), .second, .val (.ref b1)] [(.int (0 : Int32)), (.ref b1)])) _
    refine XT.lloadN X1.here hx rfl (hb hby d1_12) rfl ?_
    show Steps p.tables e below (T1.setTop (mkF m 13 #[.val (.int (1 : Int32)), .val (.long q1), .second, .val (.long q2), .second, .val (.long q3), .second, .val (.ref b1)] [(.long q1), (.int (0 : Int32)), (.ref b1)])) _
    refine st3 _ ?_
    show Steps p.tables e below (T3.setTop (mkF m 14 #[.val (.int (1 : Int32)), .val (.long q1), .second, .val (.long q2), .second, .val (.long q3), .second, .val (.ref b1)] [])) _
    refine XS.iloadN X3.here hx rfl (hb hby d1_14) rfl ?_
    show Steps p.tables e below (T3.setTop (mkF m 15 #[.val (.int (1 : Int32)), .val (.long q1), .second, .val (.long q2), .second, .val (.long q3), .second, .val (.ref b1)] [(.int (1 : Int32))])) _
    refine XT.iconstV X3.here hx rfl (1 : Int32) (hb hby d1_15) (by decide) ?_
    show Steps p.tables e below (T3.setTop (mkF m 16 #[.val (.int (1 : Int32)), .val (.long q1), .second, .val (.long q2), .second, .val (.long q3), .second, .val (.ref b1)] [(.int (1 : Int32)), (.int (1 : Int32))])) _
    refine XS.icmpYes X3.here hx rfl (pc0 := 16) (pc' := 24) rfl (hb hby d1_16) rfl (XT.ii_le_t (by decide)) (by decide) (by decide) ?_
    show Steps p.tables e below (T3.setTop (mkF m 24 #[.val (.int (1 : Int32)), .val (.long q1), .second, .val (.long q2), .second, .val (.long q3), .second, .val (.ref b1)] [])) _
    refine XS.iloadN X3.here hx rfl (hb hby d1_24) rfl ?_
    show Steps p.tables e below (T3.setTop (mkF m 25 #[.val (.int (1 : Int32)), .val (.long q1), .second, .val (.long q2), .second, .val (.long q3), .second, .val (.ref b1)] [(.int (1 : Int32))])) _
    refine XT.iconstV X3.here hx rfl (2 : Int32) (hb hby d1_25) (by decide) ?_
    show Steps p.tables e below (T3.setTop (mkF m 26 #[.val (.int (1 : Int32)), .val (.long q1), .second, .val (.long q2), .second, .val (.long q3), .second, .val (.ref b1)] [(.int (2 : Int32)), (.int (1 : Int32))])) _
    refine XS.icmpYes X3.here hx rfl (pc0 := 26) (pc' := 35) rfl (hb hby d1_26) rfl (XT.ii_le_t (by decide)) (by decide) (by decide) ?_
    show Steps p.tables e below (T3.setTop (mkF m 35 #[.val (.int (1 : Int32)), .val (.long q1), .second, .val (.long q2), .second, .val (.long q3), .second, .val (.ref b1)] [])) _
    refine XS.aload X3.here hx rfl (hb hby d1_35) rfl rfl ?_
    show Steps p.tables e below (T3.setTop (mkF m 37 #[.val (.int (1 : Int32)), .val (.long q1), .second, .val (.long q2), .second, .val (.long q3), .second, .val (.ref b1)] [(.ref b1)])) _
    exact k)
  obtain ⟨fs, hr, hrun, hended, hW, hsame⟩ := X3.leave (v := some (.ref b1)) (fun h => by rw [Bd.returns] at h; cases h)
  refine ⟨_, _, pre0 _ (S4 _ ?_), hrun, hended, _, _, rfl, ?_, ⟨_, rfl⟩, hW, hsame.mono (by decide) (by decide)⟩
  · jvm_step X3.here [X3.here.top, hx, (hb hby d1_37), X3.method', Bd.returns, Value.isRef, FieldType.isReference]
    first | (intro acts; rw [hr _ acts rfl rfl rfl]) | rw [hr _ _ rfl rfl rfl]
    exact Steps.refl _
  · show QrmMake1 Z q1 q2 q3 h0 n0 _ T3.heap _
    rw [e3]
    exact ⟨b1, _, rfl, N3, sz_b1, K3, V3⟩
theorem d1_19 : decode method_2_code 19 = .ok (.aload 7, 2) := by decide +kernel
theorem d1_21 : decode method_2_code 21 = .ok (.iconst 1, 1) := by decide +kernel
theorem d1_22 : decode method_2_code 22 = .ok (.lload_n 3, 1) := by decide +kernel
theorem d1_23 : decode method_2_code 23 = .ok (.lastore, 1) := by decide +kernel
def QrmMake2 (Z : State) (q1 : Int64) (q2 : Int64) (q3 : Int64) (h0 : Heap) (n0 : Nat) (v : Option Value) (h : Heap) (L : List Loc) : Prop := ∃ (b : Addr) (k : ClassId), v = some (.ref b) ∧ Fr n0 L ∧ h0.size ≤ b ∧ Keep h0 h [] ∧ Arv Z h b k .long (2 : Int32) [(.long q1), (.long q2)] (.long (0 : Int64))
set_option maxRecDepth 65536 in
set_option maxHeartbeats 40000000 in
theorem rmMake2 (l : Launch) (Z : State) (av0 : Array Value) (hw : ∀ d ∈ tables_1, d.before av0 Z = true) (ws : List Jvm.Cond) (q1 : Int64) (q2 : Int64) (q3 : Int64) (h0 : Heap) (n0 : Nat) (Z0 : n0 ≤ h0.size)  :
    MetFree l (⟨"com/example/bare_refinement/barerefinement/exploration/StateSpaceHashPinLaw", "make", "(IJJJ)[J"⟩ : MethodName) (head1 (Jvm.Cond.code (⟨"com/example/bare_refinement/barerefinement/exploration/StateSpaceHashPinLaw", "make", "(IJJJ)[J"⟩ : MethodName) method_2_code 8 (some (.array .long)) :: ws) ({ frames := 0, cells := 1, slots := 2, locals := 0 } : Room)) (fun aU U => aU = #[(.int (2 : Int32)), (.long q1), (.long q2), (.long q3)] ∧ Z.Warmed39 U.vm ∧ U.heap = h0) (fun _ _ _ _ _ => True) (fun _ U oU U' => ∃ vU LU, oU = .returned vU ∧ QrmMake2 Z q1 q2 q3 h0 n0 vU U'.heap LU ∧ FrameEnd U oU U' LU ({ frames := 0, cells := 1, slots := 2, locals := 0 } : Room).cells ({ frames := 0, cells := 1, slots := 2, locals := 0 } : Room).slots) := by
  refine MetFree.of_bodySF (plainFor_of_name pn_StateSpaceHashPinLaw) hisR ?_
  intro p e s m args below meth c s₁ Bd hml0 hP hK
  obtain ⟨rfl, hZ, hh⟩ := hP
  have hx := Bd.exec
  have hby := Bd.bytes
  have hml : c.maxLocals = 8 := hml0
  have hown : s.vm.findClass "com/example/bare_refinement/barerefinement/exploration/StateSpaceHashPinLaw" = some m.cls := findClass_of_methodNamed Bd.named
  have hnm := (name_of_methodNamed Bd.named Bd.method).1
  have X0 : Stand p l e ({ frames := 0, cells := 1, slots := 2, locals := 0 } : Room) s m #[(.int (2 : Int32)), (.long q1), (.long q2), (.long q3)] below meth c s₁ [] 0 0 := Stand.of_body Bd
  have e0 : s₁.heap = h0 := by rw [← hh, Bd.state]; rfl
  have N0 := Fr.nil n0
  have pre0 : ∀ t, Steps p.tables e below (s₁.setTop (mkF m 0 #[.val (.int (2 : Int32)), .val (.long q1), .second, .val (.long q2), .second, .val (.long q3), .second, .unset] [])) t → Steps p.tables e below (s₁.setTop (entryFrame m #[(.int (2 : Int32)), (.long q1), (.long q2), (.long q3)] 8)) t := fun t k => castTop (by first | (simp [entryFrame, mkF, argsToLocals, Value.category]; done) | rfl) k
  obtain ⟨T1, h1, k1, X1, e1, E1, A1, st1⟩ := newP X0 hx hZ (hw _ (List.mem_of_getElem? (i := 4) rfl)) e0 (g := (mkF m 1 #[.val (.int (2 : Int32)), .val (.long q1), .second, .val (.long q2), .second, .val (.long q3), .second, .unset] [(.int (2 : Int32))])) rfl (hb hby d1_1) rfl (by decide) (cap := 2) (by decide) (by decide) (by decide) (by decide)
  obtain ⟨b1, g1⟩ : ∃ z, z = h0.size := ⟨_, rfl⟩
  rw [← g1] at A1 st1
  have ge_b1 : n0 ≤ b1 := Nat.le_trans Z0 (Nat.le_of_eq g1.symm)
  have sz_b1 : h0.size ≤ b1 := Nat.le_of_eq g1.symm
  have Z1 : n0 ≤ h1.size := Nat.le_trans Z0 E1.1
  have K1 : Keep h0 h1 [] := (Keep.refl h0 []).ext E1
  have V1 : Arv Z h1 b1 k1 .long (2 : Int32) [(.long (0 : Int64)), (.long (0 : Int64))] (.long (0 : Int64)) := (Arv.new A1 (by decide)).pad (pad_rep [] (.long (0 : Int64)) 2)
  obtain ⟨cl2, Ar2, qk2, Sz2, Ng2, Hs2, Gs2⟩ := id V1
  have hin2 : ¬ ((0 : Int32) < 0 ∨ cl2.slots.size ≤ ((0 : Int32)).toNatClampNeg) := inb_of Sz2 ⟨by decide, by decide⟩
  obtain ⟨T3, h3, X3, e3, W3, st3⟩ := stJ X1 hx hZ e1 Ar2 (j := (0 : Int32)) hin2 (g := (mkF m 13 #[.val (.int (2 : Int32)), .val (.long q1), .second, .val (.long q2), .second, .val (.long q3), .second, .val (.ref b1)] [(.long q1), (.int (0 : Int32)), (.ref b1)])) rfl rfl (hb hby d1_13)
  have N3 := Fr.snoc X3 N0 ge_b1
  have Z3 : n0 ≤ h3.size := Nat.le_trans Z1 (Nat.le_of_eq W3.size.symm)
  have K3 : Keep h0 h3 [] := K1.wr W3 (Or.inr sz_b1)
  have V3 : Arv Z h3 b1 k1 .long (2 : Int32) [(.long q1), (.long (0 : Int64))] (.long (0 : Int64)) := Arv.set Ar2 qk2 Sz2 Ng2 Hs2 Gs2 rfl W3 0 rfl (Nat.le_of_ble_eq_true rfl)
  obtain ⟨cl4, Ar4, qk4, Sz4, Ng4, Hs4, Gs4⟩ := id V3
  have hin4 : ¬ ((1 : Int32) < 0 ∨ cl4.slots.size ≤ ((1 : Int32)).toNatClampNeg) := inb_of Sz4 ⟨by decide, by decide⟩
  obtain ⟨T5, h5, X5, e5, W5, st5⟩ := stJ X3 hx hZ e3 Ar4 (j := (1 : Int32)) hin4 (g := (mkF m 23 #[.val (.int (2 : Int32)), .val (.long q1), .second, .val (.long q2), .second, .val (.long q3), .second, .val (.ref b1)] [(.long q2), (.int (1 : Int32)), (.ref b1)])) rfl rfl (hb hby d1_23)
  have N5 := Fr.snoc X5 N3 ge_b1
  have Z5 : n0 ≤ h5.size := Nat.le_trans Z3 (Nat.le_of_eq W5.size.symm)
  have K5 : Keep h0 h5 [] := K3.wr W5 (Or.inr sz_b1)
  have V5 : Arv Z h5 b1 k1 .long (2 : Int32) [(.long q1), (.long q2)] (.long (0 : Int64)) := Arv.set Ar4 qk4 Sz4 Ng4 Hs4 Gs4 rfl W5 1 rfl (Nat.le_of_ble_eq_true rfl)
  have S6 : ∀ t, Steps p.tables e below (T5.setTop (mkF m 37 #[.val (.int (2 : Int32)), .val (.long q1), .second, .val (.long q2), .second, .val (.long q3), .second, .val (.ref b1)] [(.ref b1)])) t → Steps p.tables e below (s₁.setTop (mkF m 0 #[.val (.int (2 : Int32)), .val (.long q1), .second, .val (.long q2), .second, .val (.long q3), .second, .unset] [])) t := fun t k => id (by
    show Steps p.tables e below (s₁.setTop (mkF m 0 #[.val (.int (2 : Int32)), .val (.long q1), .second, .val (.long q2), .second, .val (.long q3), .second, .unset] [])) _
    refine XS.iloadN X0.here hx rfl (hb hby d1_0) rfl ?_
    show Steps p.tables e below (s₁.setTop (mkF m 1 #[.val (.int (2 : Int32)), .val (.long q1), .second, .val (.long q2), .second, .val (.long q3), .second, .unset] [(.int (2 : Int32))])) _
    refine st1 _ ?_
    show Steps p.tables e below (T1.setTop (mkF m 3 #[.val (.int (2 : Int32)), .val (.long q1), .second, .val (.long q2), .second, .val (.long q3), .second, .unset] [(.ref b1)])) _
    refine XS.astore X1.here hx rfl (hb hby d1_3) rfl rfl (l' := #[.val (.int (2 : Int32)), .val (.long q1), .second, .val (.long q2), .second, .val (.long q3), .second, .val (.ref b1)]) rfl ?_
    show Steps p.tables e below (T1.setTop (mkF m 5 #[.val (.int (2 : Int32)), .val (.long q1), .second, .val (.long q2), .second, .val (.long q3), .second, .val (.ref b1)] [])) _
    refine XS.iloadN X1.here hx rfl (hb hby d1_5) rfl ?_
    show Steps p.tables e below (T1.setTop (mkF m 6 #[.val (.int (2 : Int32)), .val (.long q1), .second, .val (.long q2), .second, .val (.long q3), .second, .val (.ref b1)] [(.int (2 : Int32))])) _
    refine XS.ifNo X1.here hx rfl (hb hby d1_6) rfl (XT.i0_le_f (by decide)) ?_
    show Steps p.tables e below (T1.setTop (mkF m 9 #[.val (.int (2 : Int32)), .val (.long q1), .second, .val (.long q2), .second, .val (.long q3), .second, .val (.ref b1)] [])) _
    refine XS.aload X1.here hx rfl (hb hby d1_9) rfl rfl ?_
    show Steps p.tables e below (T1.setTop (mkF m 11 #[.val (.int (2 : Int32)), .val (.long q1), .second, .val (.long q2), .second, .val (.long q3), .second, .val (.ref b1)] [(.ref b1)])) _
    refine XT.iconstV X1.here hx rfl (0 : Int32) (hb hby d1_11) (by decide) ?_
    show Steps p.tables e below (T1.setTop (mkF m 12 #[.val (.int (2 : Int32)), .val (.long q1), .second, .val (.long q2), .second, .val (.long q3), .second, .val (.ref b1)] [(.int (0 : Int32)), (.ref b1)])) _
    refine XT.lloadN X1.here hx rfl (hb hby d1_12) rfl ?_
    show Steps p.tables e below (T1.setTop (mkF m 13 #[.val (.int (2 : Int32)), .val (.long q1), .second, .val (.long q2), .second, .val (.long q3), .second, .val (.ref b1)] [(.long q1), (.int (0 : Int32)), (.ref b1)])) _
    refine st3 _ ?_
    show Steps p.tables e below (T3.setTop (mkF m 14 #[.val (.int (2 : Int32)), .val (.long q1), .second, .val (.long q2), .second, .val (.long q3), .second, .val (.ref b1)] [])) _
    refine XS.iloadN X3.here hx rfl (hb hby d1_14) rfl ?_
    show Steps p.tables e below (T3.setTop (mkF m 15 #[.val (.int (2 : Int32)), .val (.long q1), .second, .val (.long q2), .second, .val (.long q3), .second, .val (.ref b1)] [(.int (2 : Int32))])) _
    refine XT.iconstV X3.here hx rfl (1 : Int32) (hb hby d1_15) (by decide) ?_
    show Steps p.tables e below (T3.setTop (mkF m 16 #[.val (.int (2 : Int32)), .val (.long q1), .second, .val (.long q2), .second, .val (.long q3), .second, .val (.ref b1)] [(.int (1 : Int32)), (.int (2 : Int32))])) _
    refine XS.icmpNo X3.here hx rfl (hb hby d1_16) rfl (XT.ii_le_f (by decide)) ?_
    show Steps p.tables e below (T3.setTop (mkF m 19 #[.val (.int (2 : Int32)), .val (.long q1), .second, .val (.long q2), .second, .val (.long q3), .second, .val (.ref b1)] [])) _
    refine XS.aload X3.here hx rfl (hb hby d1_19) rfl rfl ?_
    show Steps p.tables e below (T3.setTop (mkF m 21 #[.val (.int (2 : Int32)), .val (.long q1), .second, .val (.long q2), .second, .val (.long q3), .second, .val (.ref b1)] [(.ref b1)])) _
    refine XT.iconstV X3.here hx rfl (1 : Int32) (hb hby d1_21) (by decide) ?_
    show Steps p.tables e below (T3.setTop (mkF m 22 #[.val (.int (2 : Int32)), .val (.long q1), .second, .val (.long q2), .second, .val (.long q3), .second, .val (.ref b1)] [(.int (1 : Int32)), (.ref b1)])) _
    refine XT.lloadN X3.here hx rfl (hb hby d1_22) rfl ?_
    show Steps p.tables e below (T3.setTop (mkF m 23 #[.val (.int (2 : Int32)), .val (.long q1), .second, .val (.long q2), .second, .val (.long q3), .second, .val (.ref b1)] [(.long q2), (.int (1 : Int32)), (.ref b1)])) _
    refine st5 _ ?_
    show Steps p.tables e below (T5.setTop (mkF m 24 #[.val (.int (2 : Int32)), .val (.long q1), .second, .val (.long q2), .second, .val (.long q3), .second, .val (.ref b1)] [])) _
    refine XS.iloadN X5.here hx rfl (hb hby d1_24) rfl ?_
    show Steps p.tables e below (T5.setTop (mkF m 25 #[.val (.int (2 : Int32)), .val (.long q1), .second, .val (.long q2), .second, .val (.long q3), .second, .val (.ref b1)] [(.int (2 : Int32))])) _
    refine XT.iconstV X5.here hx rfl (2 : Int32) (hb hby d1_25) (by decide) ?_
    show Steps p.tables e below (T5.setTop (mkF m 26 #[.val (.int (2 : Int32)), .val (.long q1), .second, .val (.long q2), .second, .val (.long q3), .second, .val (.ref b1)] [(.int (2 : Int32)), (.int (2 : Int32))])) _
    refine XS.icmpYes X5.here hx rfl (pc0 := 26) (pc' := 35) rfl (hb hby d1_26) rfl (XT.ii_le_t (by decide)) (by decide) (by decide) ?_
    show Steps p.tables e below (T5.setTop (mkF m 35 #[.val (.int (2 : Int32)), .val (.long q1), .second, .val (.long q2), .second, .val (.long q3), .second, .val (.ref b1)] [])) _
    refine XS.aload X5.here hx rfl (hb hby d1_35) rfl rfl ?_
    show Steps p.tables e below (T5.setTop (mkF m 37 #[.val (.int (2 : Int32)), .val (.long q1), .second, .val (.long q2), .second, .val (.long q3), .second, .val (.ref b1)] [(.ref b1)])) _
    exact k)
  obtain ⟨fs, hr, hrun, hended, hW, hsame⟩ := X5.leave (v := some (.ref b1)) (fun h => by rw [Bd.returns] at h; cases h)
  refine ⟨_, _, pre0 _ (S6 _ ?_), hrun, hended, _, _, rfl, ?_, ⟨_, rfl⟩, hW, hsame.mono (by decide) (by decide)⟩
  · jvm_step X5.here [X5.here.top, hx, (hb hby d1_37), X5.method', Bd.returns, Value.isRef, FieldType.isReference]
    first | (intro acts; rw [hr _ acts rfl rfl rfl]) | rw [hr _ _ rfl rfl rfl]
    exact Steps.refl _
  · show QrmMake2 Z q1 q2 q3 h0 n0 _ T5.heap _
    rw [e5]
    exact ⟨b1, _, rfl, N5, sz_b1, K5, V5⟩
theorem d1_29 : decode method_2_code 29 = .ok (.aload 7, 2) := by decide +kernel
theorem d1_31 : decode method_2_code 31 = .ok (.iconst 2, 1) := by decide +kernel
theorem d1_32 : decode method_2_code 32 = .ok (.lload 5, 2) := by decide +kernel
theorem d1_34 : decode method_2_code 34 = .ok (.lastore, 1) := by decide +kernel
def QrmMake3 (Z : State) (q1 : Int64) (q2 : Int64) (q3 : Int64) (h0 : Heap) (n0 : Nat) (v : Option Value) (h : Heap) (L : List Loc) : Prop := ∃ (b : Addr) (k : ClassId), v = some (.ref b) ∧ Fr n0 L ∧ h0.size ≤ b ∧ Keep h0 h [] ∧ Arv Z h b k .long (3 : Int32) [(.long q1), (.long q2), (.long q3)] (.long (0 : Int64))
set_option maxRecDepth 65536 in
set_option maxHeartbeats 40000000 in
theorem rmMake3 (l : Launch) (Z : State) (av0 : Array Value) (hw : ∀ d ∈ tables_1, d.before av0 Z = true) (ws : List Jvm.Cond) (q1 : Int64) (q2 : Int64) (q3 : Int64) (h0 : Heap) (n0 : Nat) (Z0 : n0 ≤ h0.size)  :
    MetFree l (⟨"com/example/bare_refinement/barerefinement/exploration/StateSpaceHashPinLaw", "make", "(IJJJ)[J"⟩ : MethodName) (head1 (Jvm.Cond.code (⟨"com/example/bare_refinement/barerefinement/exploration/StateSpaceHashPinLaw", "make", "(IJJJ)[J"⟩ : MethodName) method_2_code 8 (some (.array .long)) :: ws) ({ frames := 0, cells := 1, slots := 3, locals := 0 } : Room)) (fun aU U => aU = #[(.int (3 : Int32)), (.long q1), (.long q2), (.long q3)] ∧ Z.Warmed39 U.vm ∧ U.heap = h0) (fun _ _ _ _ _ => True) (fun _ U oU U' => ∃ vU LU, oU = .returned vU ∧ QrmMake3 Z q1 q2 q3 h0 n0 vU U'.heap LU ∧ FrameEnd U oU U' LU ({ frames := 0, cells := 1, slots := 3, locals := 0 } : Room).cells ({ frames := 0, cells := 1, slots := 3, locals := 0 } : Room).slots) := by
  refine MetFree.of_bodySF (plainFor_of_name pn_StateSpaceHashPinLaw) hisR ?_
  intro p e s m args below meth c s₁ Bd hml0 hP hK
  obtain ⟨rfl, hZ, hh⟩ := hP
  have hx := Bd.exec
  have hby := Bd.bytes
  have hml : c.maxLocals = 8 := hml0
  have hown : s.vm.findClass "com/example/bare_refinement/barerefinement/exploration/StateSpaceHashPinLaw" = some m.cls := findClass_of_methodNamed Bd.named
  have hnm := (name_of_methodNamed Bd.named Bd.method).1
  have X0 : Stand p l e ({ frames := 0, cells := 1, slots := 3, locals := 0 } : Room) s m #[(.int (3 : Int32)), (.long q1), (.long q2), (.long q3)] below meth c s₁ [] 0 0 := Stand.of_body Bd
  have e0 : s₁.heap = h0 := by rw [← hh, Bd.state]; rfl
  have N0 := Fr.nil n0
  have pre0 : ∀ t, Steps p.tables e below (s₁.setTop (mkF m 0 #[.val (.int (3 : Int32)), .val (.long q1), .second, .val (.long q2), .second, .val (.long q3), .second, .unset] [])) t → Steps p.tables e below (s₁.setTop (entryFrame m #[(.int (3 : Int32)), (.long q1), (.long q2), (.long q3)] 8)) t := fun t k => castTop (by first | (simp [entryFrame, mkF, argsToLocals, Value.category]; done) | rfl) k
  obtain ⟨T1, h1, k1, X1, e1, E1, A1, st1⟩ := newP X0 hx hZ (hw _ (List.mem_of_getElem? (i := 4) rfl)) e0 (g := (mkF m 1 #[.val (.int (3 : Int32)), .val (.long q1), .second, .val (.long q2), .second, .val (.long q3), .second, .unset] [(.int (3 : Int32))])) rfl (hb hby d1_1) rfl (by decide) (cap := 3) (by decide) (by decide) (by decide) (by decide)
  obtain ⟨b1, g1⟩ : ∃ z, z = h0.size := ⟨_, rfl⟩
  rw [← g1] at A1 st1
  have ge_b1 : n0 ≤ b1 := Nat.le_trans Z0 (Nat.le_of_eq g1.symm)
  have sz_b1 : h0.size ≤ b1 := Nat.le_of_eq g1.symm
  have Z1 : n0 ≤ h1.size := Nat.le_trans Z0 E1.1
  have K1 : Keep h0 h1 [] := (Keep.refl h0 []).ext E1
  have V1 : Arv Z h1 b1 k1 .long (3 : Int32) [(.long (0 : Int64)), (.long (0 : Int64)), (.long (0 : Int64))] (.long (0 : Int64)) := (Arv.new A1 (by decide)).pad (pad_rep [] (.long (0 : Int64)) 3)
  obtain ⟨cl2, Ar2, qk2, Sz2, Ng2, Hs2, Gs2⟩ := id V1
  have hin2 : ¬ ((0 : Int32) < 0 ∨ cl2.slots.size ≤ ((0 : Int32)).toNatClampNeg) := inb_of Sz2 ⟨by decide, by decide⟩
  obtain ⟨T3, h3, X3, e3, W3, st3⟩ := stJ X1 hx hZ e1 Ar2 (j := (0 : Int32)) hin2 (g := (mkF m 13 #[.val (.int (3 : Int32)), .val (.long q1), .second, .val (.long q2), .second, .val (.long q3), .second, .val (.ref b1)] [(.long q1), (.int (0 : Int32)), (.ref b1)])) rfl rfl (hb hby d1_13)
  have N3 := Fr.snoc X3 N0 ge_b1
  have Z3 : n0 ≤ h3.size := Nat.le_trans Z1 (Nat.le_of_eq W3.size.symm)
  have K3 : Keep h0 h3 [] := K1.wr W3 (Or.inr sz_b1)
  have V3 : Arv Z h3 b1 k1 .long (3 : Int32) [(.long q1), (.long (0 : Int64)), (.long (0 : Int64))] (.long (0 : Int64)) := Arv.set Ar2 qk2 Sz2 Ng2 Hs2 Gs2 rfl W3 0 rfl (Nat.le_of_ble_eq_true rfl)
  obtain ⟨cl4, Ar4, qk4, Sz4, Ng4, Hs4, Gs4⟩ := id V3
  have hin4 : ¬ ((1 : Int32) < 0 ∨ cl4.slots.size ≤ ((1 : Int32)).toNatClampNeg) := inb_of Sz4 ⟨by decide, by decide⟩
  obtain ⟨T5, h5, X5, e5, W5, st5⟩ := stJ X3 hx hZ e3 Ar4 (j := (1 : Int32)) hin4 (g := (mkF m 23 #[.val (.int (3 : Int32)), .val (.long q1), .second, .val (.long q2), .second, .val (.long q3), .second, .val (.ref b1)] [(.long q2), (.int (1 : Int32)), (.ref b1)])) rfl rfl (hb hby d1_23)
  have N5 := Fr.snoc X5 N3 ge_b1
  have Z5 : n0 ≤ h5.size := Nat.le_trans Z3 (Nat.le_of_eq W5.size.symm)
  have K5 : Keep h0 h5 [] := K3.wr W5 (Or.inr sz_b1)
  have V5 : Arv Z h5 b1 k1 .long (3 : Int32) [(.long q1), (.long q2), (.long (0 : Int64))] (.long (0 : Int64)) := Arv.set Ar4 qk4 Sz4 Ng4 Hs4 Gs4 rfl W5 1 rfl (Nat.le_of_ble_eq_true rfl)
  obtain ⟨cl6, Ar6, qk6, Sz6, Ng6, Hs6, Gs6⟩ := id V5
  have hin6 : ¬ ((2 : Int32) < 0 ∨ cl6.slots.size ≤ ((2 : Int32)).toNatClampNeg) := inb_of Sz6 ⟨by decide, by decide⟩
  obtain ⟨T7, h7, X7, e7, W7, st7⟩ := stJ X5 hx hZ e5 Ar6 (j := (2 : Int32)) hin6 (g := (mkF m 34 #[.val (.int (3 : Int32)), .val (.long q1), .second, .val (.long q2), .second, .val (.long q3), .second, .val (.ref b1)] [(.long q3), (.int (2 : Int32)), (.ref b1)])) rfl rfl (hb hby d1_34)
  have N7 := Fr.snoc X7 N5 ge_b1
  have Z7 : n0 ≤ h7.size := Nat.le_trans Z5 (Nat.le_of_eq W7.size.symm)
  have K7 : Keep h0 h7 [] := K5.wr W7 (Or.inr sz_b1)
  have V7 : Arv Z h7 b1 k1 .long (3 : Int32) [(.long q1), (.long q2), (.long q3)] (.long (0 : Int64)) := Arv.set Ar6 qk6 Sz6 Ng6 Hs6 Gs6 rfl W7 2 rfl (Nat.le_of_ble_eq_true rfl)
  have S8 : ∀ t, Steps p.tables e below (T7.setTop (mkF m 37 #[.val (.int (3 : Int32)), .val (.long q1), .second, .val (.long q2), .second, .val (.long q3), .second, .val (.ref b1)] [(.ref b1)])) t → Steps p.tables e below (s₁.setTop (mkF m 0 #[.val (.int (3 : Int32)), .val (.long q1), .second, .val (.long q2), .second, .val (.long q3), .second, .unset] [])) t := fun t k => id (by
    show Steps p.tables e below (s₁.setTop (mkF m 0 #[.val (.int (3 : Int32)), .val (.long q1), .second, .val (.long q2), .second, .val (.long q3), .second, .unset] [])) _
    refine XS.iloadN X0.here hx rfl (hb hby d1_0) rfl ?_
    show Steps p.tables e below (s₁.setTop (mkF m 1 #[.val (.int (3 : Int32)), .val (.long q1), .second, .val (.long q2), .second, .val (.long q3), .second, .unset] [(.int (3 : Int32))])) _
    refine st1 _ ?_
    show Steps p.tables e below (T1.setTop (mkF m 3 #[.val (.int (3 : Int32)), .val (.long q1), .second, .val (.long q2), .second, .val (.long q3), .second, .unset] [(.ref b1)])) _
    refine XS.astore X1.here hx rfl (hb hby d1_3) rfl rfl (l' := #[.val (.int (3 : Int32)), .val (.long q1), .second, .val (.long q2), .second, .val (.long q3), .second, .val (.ref b1)]) rfl ?_
    show Steps p.tables e below (T1.setTop (mkF m 5 #[.val (.int (3 : Int32)), .val (.long q1), .second, .val (.long q2), .second, .val (.long q3), .second, .val (.ref b1)] [])) _
    refine XS.iloadN X1.here hx rfl (hb hby d1_5) rfl ?_
    show Steps p.tables e below (T1.setTop (mkF m 6 #[.val (.int (3 : Int32)), .val (.long q1), .second, .val (.long q2), .second, .val (.long q3), .second, .val (.ref b1)] [(.int (3 : Int32))])) _
    refine XS.ifNo X1.here hx rfl (hb hby d1_6) rfl (XT.i0_le_f (by decide)) ?_
    show Steps p.tables e below (T1.setTop (mkF m 9 #[.val (.int (3 : Int32)), .val (.long q1), .second, .val (.long q2), .second, .val (.long q3), .second, .val (.ref b1)] [])) _
    refine XS.aload X1.here hx rfl (hb hby d1_9) rfl rfl ?_
    show Steps p.tables e below (T1.setTop (mkF m 11 #[.val (.int (3 : Int32)), .val (.long q1), .second, .val (.long q2), .second, .val (.long q3), .second, .val (.ref b1)] [(.ref b1)])) _
    refine XT.iconstV X1.here hx rfl (0 : Int32) (hb hby d1_11) (by decide) ?_
    show Steps p.tables e below (T1.setTop (mkF m 12 #[.val (.int (3 : Int32)), .val (.long q1), .second, .val (.long q2), .second, .val (.long q3), .second, .val (.ref b1)] [(.int (0 : Int32)), (.ref b1)])) _
    refine XT.lloadN X1.here hx rfl (hb hby d1_12) rfl ?_
    show Steps p.tables e below (T1.setTop (mkF m 13 #[.val (.int (3 : Int32)), .val (.long q1), .second, .val (.long q2), .second, .val (.long q3), .second, .val (.ref b1)] [(.long q1), (.int (0 : Int32)), (.ref b1)])) _
    refine st3 _ ?_
    show Steps p.tables e below (T3.setTop (mkF m 14 #[.val (.int (3 : Int32)), .val (.long q1), .second, .val (.long q2), .second, .val (.long q3), .second, .val (.ref b1)] [])) _
    refine XS.iloadN X3.here hx rfl (hb hby d1_14) rfl ?_
    show Steps p.tables e below (T3.setTop (mkF m 15 #[.val (.int (3 : Int32)), .val (.long q1), .second, .val (.long q2), .second, .val (.long q3), .second, .val (.ref b1)] [(.int (3 : Int32))])) _
    refine XT.iconstV X3.here hx rfl (1 : Int32) (hb hby d1_15) (by decide) ?_
    show Steps p.tables e below (T3.setTop (mkF m 16 #[.val (.int (3 : Int32)), .val (.long q1), .second, .val (.long q2), .second, .val (.long q3), .second, .val (.ref b1)] [(.int (1 : Int32)), (.int (3 : Int32))])) _
    refine XS.icmpNo X3.here hx rfl (hb hby d1_16) rfl (XT.ii_le_f (by decide)) ?_
    show Steps p.tables e below (T3.setTop (mkF m 19 #[.val (.int (3 : Int32)), .val (.long q1), .second, .val (.long q2), .second, .val (.long q3), .second, .val (.ref b1)] [])) _
    refine XS.aload X3.here hx rfl (hb hby d1_19) rfl rfl ?_
    show Steps p.tables e below (T3.setTop (mkF m 21 #[.val (.int (3 : Int32)), .val (.long q1), .second, .val (.long q2), .second, .val (.long q3), .second, .val (.ref b1)] [(.ref b1)])) _
    refine XT.iconstV X3.here hx rfl (1 : Int32) (hb hby d1_21) (by decide) ?_
    show Steps p.tables e below (T3.setTop (mkF m 22 #[.val (.int (3 : Int32)), .val (.long q1), .second, .val (.long q2), .second, .val (.long q3), .second, .val (.ref b1)] [(.int (1 : Int32)), (.ref b1)])) _
    refine XT.lloadN X3.here hx rfl (hb hby d1_22) rfl ?_
    show Steps p.tables e below (T3.setTop (mkF m 23 #[.val (.int (3 : Int32)), .val (.long q1), .second, .val (.long q2), .second, .val (.long q3), .second, .val (.ref b1)] [(.long q2), (.int (1 : Int32)), (.ref b1)])) _
    refine st5 _ ?_
    show Steps p.tables e below (T5.setTop (mkF m 24 #[.val (.int (3 : Int32)), .val (.long q1), .second, .val (.long q2), .second, .val (.long q3), .second, .val (.ref b1)] [])) _
    refine XS.iloadN X5.here hx rfl (hb hby d1_24) rfl ?_
    show Steps p.tables e below (T5.setTop (mkF m 25 #[.val (.int (3 : Int32)), .val (.long q1), .second, .val (.long q2), .second, .val (.long q3), .second, .val (.ref b1)] [(.int (3 : Int32))])) _
    refine XT.iconstV X5.here hx rfl (2 : Int32) (hb hby d1_25) (by decide) ?_
    show Steps p.tables e below (T5.setTop (mkF m 26 #[.val (.int (3 : Int32)), .val (.long q1), .second, .val (.long q2), .second, .val (.long q3), .second, .val (.ref b1)] [(.int (2 : Int32)), (.int (3 : Int32))])) _
    refine XS.icmpNo X5.here hx rfl (hb hby d1_26) rfl (XT.ii_le_f (by decide)) ?_
    show Steps p.tables e below (T5.setTop (mkF m 29 #[.val (.int (3 : Int32)), .val (.long q1), .second, .val (.long q2), .second, .val (.long q3), .second, .val (.ref b1)] [])) _
    refine XS.aload X5.here hx rfl (hb hby d1_29) rfl rfl ?_
    show Steps p.tables e below (T5.setTop (mkF m 31 #[.val (.int (3 : Int32)), .val (.long q1), .second, .val (.long q2), .second, .val (.long q3), .second, .val (.ref b1)] [(.ref b1)])) _
    refine XT.iconstV X5.here hx rfl (2 : Int32) (hb hby d1_31) (by decide) ?_
    show Steps p.tables e below (T5.setTop (mkF m 32 #[.val (.int (3 : Int32)), .val (.long q1), .second, .val (.long q2), .second, .val (.long q3), .second, .val (.ref b1)] [(.int (2 : Int32)), (.ref b1)])) _
    refine XT.lload X5.here hx rfl (hb hby d1_32) rfl ?_
    show Steps p.tables e below (T5.setTop (mkF m 34 #[.val (.int (3 : Int32)), .val (.long q1), .second, .val (.long q2), .second, .val (.long q3), .second, .val (.ref b1)] [(.long q3), (.int (2 : Int32)), (.ref b1)])) _
    refine st7 _ ?_
    show Steps p.tables e below (T7.setTop (mkF m 35 #[.val (.int (3 : Int32)), .val (.long q1), .second, .val (.long q2), .second, .val (.long q3), .second, .val (.ref b1)] [])) _
    refine XS.aload X7.here hx rfl (hb hby d1_35) rfl rfl ?_
    show Steps p.tables e below (T7.setTop (mkF m 37 #[.val (.int (3 : Int32)), .val (.long q1), .second, .val (.long q2), .second, .val (.long q3), .second, .val (.ref b1)] [(.ref b1)])) _
    exact k)
  obtain ⟨fs, hr, hrun, hended, hW, hsame⟩ := X7.leave (v := some (.ref b1)) (fun h => by rw [Bd.returns] at h; cases h)
  refine ⟨_, _, pre0 _ (S8 _ ?_), hrun, hended, _, _, rfl, ?_, ⟨_, rfl⟩, hW, hsame.mono (by decide) (by decide)⟩
  · jvm_step X7.here [X7.here.top, hx, (hb hby d1_37), X7.method', Bd.returns, Value.isRef, FieldType.isReference]
    first | (intro acts; rw [hr _ acts rfl rfl rfl]) | rw [hr _ _ rfl rfl rfl]
    exact Steps.refl _
  · show QrmMake3 Z q1 q2 q3 h0 n0 _ T7.heap _
    rw [e7]
    exact ⟨b1, _, rfl, N7, sz_b1, K7, V7⟩
theorem d2_0 : decode prog_59_method_9_code 0 = .ok (.lconst 0, 1) := by decide +kernel
theorem d2_1 : decode prog_59_method_9_code 1 = .ok (.lstore_n 1, 1) := by decide +kernel
theorem d2_2 : decode prog_59_method_9_code 2 = .ok (.aload_n 0, 1) := by decide +kernel
theorem d2_3 : decode prog_59_method_9_code 3 = .ok (.astore_n 3, 1) := by decide +kernel
theorem d2_4 : decode prog_59_method_9_code 4 = .ok (.aload_n 3, 1) := by decide +kernel
theorem d2_5 : decode prog_59_method_9_code 5 = .ok (.arraylength, 1) := by decide +kernel
theorem d2_6 : decode prog_59_method_9_code 6 = .ok (.istore 4, 2) := by decide +kernel
theorem d2_8 : decode prog_59_method_9_code 8 = .ok (.iconst 0, 1) := by decide +kernel
theorem d2_9 : decode prog_59_method_9_code 9 = .ok (.istore 5, 2) := by decide +kernel
theorem d2_11 : decode prog_59_method_9_code 11 = .ok (.iload 5, 2) := by decide +kernel
theorem d2_13 : decode prog_59_method_9_code 13 = .ok (.iload 4, 2) := by decide +kernel
theorem d2_15 : decode prog_59_method_9_code 15 = .ok (.if_icmp .ge 24, 3) := by decide +kernel
theorem d2_39 : decode prog_59_method_9_code 39 = .ok (.lload_n 1, 1) := by decide +kernel
theorem d2_40 : decode prog_59_method_9_code 40 = .ok (.lload_n 1, 1) := by decide +kernel
theorem d2_41 : decode prog_59_method_9_code 41 = .ok (.bipush 33, 2) := by decide +kernel
theorem d2_43 : decode prog_59_method_9_code 43 = .ok (.lushr, 1) := by decide +kernel
theorem d2_44 : decode prog_59_method_9_code 44 = .ok (.lxor, 1) := by decide +kernel
theorem d2_45 : decode prog_59_method_9_code 45 = .ok (.lstore_n 1, 1) := by decide +kernel
theorem d2_46 : decode prog_59_method_9_code 46 = .ok (.lload_n 1, 1) := by decide +kernel
theorem d2_47 : decode prog_59_method_9_code 47 = .ok (.ldc2_w 120, 3) := by decide +kernel
theorem d2_50 : decode prog_59_method_9_code 50 = .ok (.lmul, 1) := by decide +kernel
theorem d2_51 : decode prog_59_method_9_code 51 = .ok (.lstore_n 1, 1) := by decide +kernel
theorem d2_52 : decode prog_59_method_9_code 52 = .ok (.lload_n 1, 1) := by decide +kernel
theorem d2_53 : decode prog_59_method_9_code 53 = .ok (.lload_n 1, 1) := by decide +kernel
theorem d2_54 : decode prog_59_method_9_code 54 = .ok (.bipush 33, 2) := by decide +kernel
theorem d2_56 : decode prog_59_method_9_code 56 = .ok (.lushr, 1) := by decide +kernel
theorem d2_57 : decode prog_59_method_9_code 57 = .ok (.lxor, 1) := by decide +kernel
theorem d2_58 : decode prog_59_method_9_code 58 = .ok (.lstore_n 1, 1) := by decide +kernel
theorem d2_59 : decode prog_59_method_9_code 59 = .ok (.lload_n 1, 1) := by decide +kernel
theorem d2_60 : decode prog_59_method_9_code 60 = .ok (.lreturn, 1) := by decide +kernel
theorem pn_StateSpace : plainName "com/example/bare_refinement/barerefinement/exploration/StateSpace" = true := by first | (simp [plainName, overriddenIn]; done) | decide +kernel
def QrmHash0 (Z : State) (a0 : Addr) (kk : ClassId) (h0 : Heap) (n0 : Nat) (v : Option Value) (h : Heap) (L : List Loc) : Prop := v = some (.long (own_fin (0))) ∧ Fr n0 L ∧ h = h0
set_option maxRecDepth 65536 in
set_option maxHeartbeats 40000000 in
theorem rmHash0 (l : Launch) (Z : State) (av0 : Array Value) (hw : ∀ d ∈ tables_1, d.before av0 Z = true) (ws : List Jvm.Cond) (a0 : Addr) (kk : ClassId) (h0 : Heap) (n0 : Nat) (Z0 : n0 ≤ h0.size) (Ha : Arv Z h0 a0 kk .long (0 : Int32) [] (.long (0 : Int64))) :
    MetFree l (⟨"com/example/bare_refinement/barerefinement/exploration/StateSpace", "hash", "([J)J"⟩ : MethodName) (head1 (Jvm.Cond.code (⟨"com/example/bare_refinement/barerefinement/exploration/StateSpace", "hash", "([J)J"⟩ : MethodName) prog_59_method_9_code 8 (some .long) :: ws) ({ frames := 0, cells := 0, slots := 0, locals := 0 } : Room)) (fun aU U => aU = #[(.ref a0)] ∧ Z.Warmed39 U.vm ∧ U.heap = h0) (fun _ _ _ _ _ => True) (fun _ U oU U' => ∃ vU LU, oU = .returned vU ∧ QrmHash0 Z a0 kk h0 n0 vU U'.heap LU ∧ FrameEnd U oU U' LU ({ frames := 0, cells := 0, slots := 0, locals := 0 } : Room).cells ({ frames := 0, cells := 0, slots := 0, locals := 0 } : Room).slots) := by
  refine MetFree.of_bodySF (plainFor_of_name pn_StateSpace) hisR ?_
  intro p e s m args below meth c s₁ Bd hml0 hP hK
  obtain ⟨rfl, hZ, hh⟩ := hP
  have hx := Bd.exec
  have hby := Bd.bytes
  have hml : c.maxLocals = 8 := hml0
  have hown : s.vm.findClass "com/example/bare_refinement/barerefinement/exploration/StateSpace" = some m.cls := findClass_of_methodNamed Bd.named
  have hnm := (name_of_methodNamed Bd.named Bd.method).1
  have X0 : Stand p l e ({ frames := 0, cells := 0, slots := 0, locals := 0 } : Room) s m #[(.ref a0)] below meth c s₁ [] 0 0 := Stand.of_body Bd
  have e0 : s₁.heap = h0 := by rw [← hh, Bd.state]; rfl
  have N0 := Fr.nil n0
  have pre0 : ∀ t, Steps p.tables e below (s₁.setTop (mkF m 0 #[.val (.ref a0), .unset, .unset, .unset, .unset, .unset, .unset, .unset] [])) t → Steps p.tables e below (s₁.setTop (entryFrame m #[(.ref a0)] 8)) t := fun t k => castTop (by first | (simp [entryFrame, mkF, argsToLocals, Value.category]; done) | rfl) k
  obtain ⟨cl1, Ar1, qk1, Sz1, Ng1, Hs1, Gs1⟩ := id Ha
  have S2 : ∀ t, Steps p.tables e below (s₁.setTop (mkF m 60 #[.val (.ref a0), .val (.long ((((0 : Int64) ^^^ (XT.ushrL (0 : Int64) (33 : Int32))) * (-49064778989728563 : Int64)) ^^^ (XT.ushrL (((0 : Int64) ^^^ (XT.ushrL (0 : Int64) (33 : Int32))) * (-49064778989728563 : Int64)) (33 : Int32)))), .second, .val (.ref a0), .val (.int (0 : Int32)), .val (.int (0 : Int32)), .unset, .unset] [(.long ((((0 : Int64) ^^^ (XT.ushrL (0 : Int64) (33 : Int32))) * (-49064778989728563 : Int64)) ^^^ (XT.ushrL (((0 : Int64) ^^^ (XT.ushrL (0 : Int64) (33 : Int32))) * (-49064778989728563 : Int64)) (33 : Int32))))])) t → Steps p.tables e below (s₁.setTop (mkF m 0 #[.val (.ref a0), .unset, .unset, .unset, .unset, .unset, .unset, .unset] [])) t := fun t k => id (by
    show Steps p.tables e below (s₁.setTop (mkF m 0 #[.val (.ref a0), .unset, .unset, .unset, .unset, .unset, .unset, .unset] [])) _
    refine XT.lconstV X0.here hx rfl (0 : Int64) (hb hby d2_0) (by decide) ?_
    show Steps p.tables e below (s₁.setTop (mkF m 1 #[.val (.ref a0), .unset, .unset, .unset, .unset, .unset, .unset, .unset] [(.long (0 : Int64))])) _
    refine XT.lstoreN X0.here hx rfl (hb hby d2_1) rfl (l' := #[.val (.ref a0), .val (.long (0 : Int64)), .second, .unset, .unset, .unset, .unset, .unset]) rfl ?_
    show Steps p.tables e below (s₁.setTop (mkF m 2 #[.val (.ref a0), .val (.long (0 : Int64)), .second, .unset, .unset, .unset, .unset, .unset] [])) _
    refine XS.aloadN X0.here hx rfl (hb hby d2_2) rfl rfl ?_
    show Steps p.tables e below (s₁.setTop (mkF m 3 #[.val (.ref a0), .val (.long (0 : Int64)), .second, .unset, .unset, .unset, .unset, .unset] [(.ref a0)])) _
    refine XS.astoreN X0.here hx rfl (hb hby d2_3) rfl rfl (l' := #[.val (.ref a0), .val (.long (0 : Int64)), .second, .val (.ref a0), .unset, .unset, .unset, .unset]) rfl ?_
    show Steps p.tables e below (s₁.setTop (mkF m 4 #[.val (.ref a0), .val (.long (0 : Int64)), .second, .val (.ref a0), .unset, .unset, .unset, .unset] [])) _
    refine XS.aloadN X0.here hx rfl (hb hby d2_4) rfl rfl ?_
    show Steps p.tables e below (s₁.setTop (mkF m 5 #[.val (.ref a0), .val (.long (0 : Int64)), .second, .val (.ref a0), .unset, .unset, .unset, .unset] [(.ref a0)])) _
    refine X0.arraylength hx (by rw [e0]; exact Ar1.1) (State.isArrayOf_alike hZ.alike Ar1.2.1) (g := (mkF m 5 #[.val (.ref a0), .val (.long (0 : Int64)), .second, .val (.ref a0), .unset, .unset, .unset, .unset] [(.ref a0)])) rfl rfl (hb hby d2_5) _ ?_
    rw [len_of Sz1 Ng1]
    show Steps p.tables e below (s₁.setTop (mkF m 6 #[.val (.ref a0), .val (.long (0 : Int64)), .second, .val (.ref a0), .unset, .unset, .unset, .unset] [(.int (0 : Int32))])) _
    refine XS.istore X0.here hx rfl (hb hby d2_6) rfl (l' := #[.val (.ref a0), .val (.long (0 : Int64)), .second, .val (.ref a0), .val (.int (0 : Int32)), .unset, .unset, .unset]) rfl ?_
    show Steps p.tables e below (s₁.setTop (mkF m 8 #[.val (.ref a0), .val (.long (0 : Int64)), .second, .val (.ref a0), .val (.int (0 : Int32)), .unset, .unset, .unset] [])) _
    refine XT.iconstV X0.here hx rfl (0 : Int32) (hb hby d2_8) (by decide) ?_
    show Steps p.tables e below (s₁.setTop (mkF m 9 #[.val (.ref a0), .val (.long (0 : Int64)), .second, .val (.ref a0), .val (.int (0 : Int32)), .unset, .unset, .unset] [(.int (0 : Int32))])) _
    refine XS.istore X0.here hx rfl (hb hby d2_9) rfl (l' := #[.val (.ref a0), .val (.long (0 : Int64)), .second, .val (.ref a0), .val (.int (0 : Int32)), .val (.int (0 : Int32)), .unset, .unset]) rfl ?_
    show Steps p.tables e below (s₁.setTop (mkF m 11 #[.val (.ref a0), .val (.long (0 : Int64)), .second, .val (.ref a0), .val (.int (0 : Int32)), .val (.int (0 : Int32)), .unset, .unset] [])) _
    refine XS.iload X0.here hx rfl (hb hby d2_11) rfl ?_
    show Steps p.tables e below (s₁.setTop (mkF m 13 #[.val (.ref a0), .val (.long (0 : Int64)), .second, .val (.ref a0), .val (.int (0 : Int32)), .val (.int (0 : Int32)), .unset, .unset] [(.int (0 : Int32))])) _
    refine XS.iload X0.here hx rfl (hb hby d2_13) rfl ?_
    show Steps p.tables e below (s₁.setTop (mkF m 15 #[.val (.ref a0), .val (.long (0 : Int64)), .second, .val (.ref a0), .val (.int (0 : Int32)), .val (.int (0 : Int32)), .unset, .unset] [(.int (0 : Int32)), (.int (0 : Int32))])) _
    refine XS.icmpYes X0.here hx rfl (pc0 := 15) (pc' := 39) rfl (hb hby d2_15) rfl (XT.ii_ge_t (by decide)) (by decide) (by decide) ?_
    show Steps p.tables e below (s₁.setTop (mkF m 39 #[.val (.ref a0), .val (.long (0 : Int64)), .second, .val (.ref a0), .val (.int (0 : Int32)), .val (.int (0 : Int32)), .unset, .unset] [])) _
    refine XT.lloadN X0.here hx rfl (hb hby d2_39) rfl ?_
    show Steps p.tables e below (s₁.setTop (mkF m 40 #[.val (.ref a0), .val (.long (0 : Int64)), .second, .val (.ref a0), .val (.int (0 : Int32)), .val (.int (0 : Int32)), .unset, .unset] [(.long (0 : Int64))])) _
    refine XT.lloadN X0.here hx rfl (hb hby d2_40) rfl ?_
    show Steps p.tables e below (s₁.setTop (mkF m 41 #[.val (.ref a0), .val (.long (0 : Int64)), .second, .val (.ref a0), .val (.int (0 : Int32)), .val (.int (0 : Int32)), .unset, .unset] [(.long (0 : Int64)), (.long (0 : Int64))])) _
    refine XT.bipushV X0.here hx rfl (33 : Int32) (hb hby d2_41) (by decide) ?_
    show Steps p.tables e below (s₁.setTop (mkF m 43 #[.val (.ref a0), .val (.long (0 : Int64)), .second, .val (.ref a0), .val (.int (0 : Int32)), .val (.int (0 : Int32)), .unset, .unset] [(.int (33 : Int32)), (.long (0 : Int64)), (.long (0 : Int64))])) _
    refine XT.lushr X0.here hx rfl (hb hby d2_43) rfl ?_
    show Steps p.tables e below (s₁.setTop (mkF m 44 #[.val (.ref a0), .val (.long (0 : Int64)), .second, .val (.ref a0), .val (.int (0 : Int32)), .val (.int (0 : Int32)), .unset, .unset] [(.long (XT.ushrL (0 : Int64) (33 : Int32))), (.long (0 : Int64))])) _
    refine XT.lxor X0.here hx rfl (hb hby d2_44) rfl ?_
    show Steps p.tables e below (s₁.setTop (mkF m 45 #[.val (.ref a0), .val (.long (0 : Int64)), .second, .val (.ref a0), .val (.int (0 : Int32)), .val (.int (0 : Int32)), .unset, .unset] [(.long ((0 : Int64) ^^^ (XT.ushrL (0 : Int64) (33 : Int32))))])) _
    refine XT.lstoreN X0.here hx rfl (hb hby d2_45) rfl (l' := #[.val (.ref a0), .val (.long ((0 : Int64) ^^^ (XT.ushrL (0 : Int64) (33 : Int32)))), .second, .val (.ref a0), .val (.int (0 : Int32)), .val (.int (0 : Int32)), .unset, .unset]) rfl ?_
    show Steps p.tables e below (s₁.setTop (mkF m 46 #[.val (.ref a0), .val (.long ((0 : Int64) ^^^ (XT.ushrL (0 : Int64) (33 : Int32)))), .second, .val (.ref a0), .val (.int (0 : Int32)), .val (.int (0 : Int32)), .unset, .unset] [])) _
    refine XT.lloadN X0.here hx rfl (hb hby d2_46) rfl ?_
    show Steps p.tables e below (s₁.setTop (mkF m 47 #[.val (.ref a0), .val (.long ((0 : Int64) ^^^ (XT.ushrL (0 : Int64) (33 : Int32)))), .second, .val (.ref a0), .val (.int (0 : Int32)), .val (.int (0 : Int32)), .unset, .unset] [(.long ((0 : Int64) ^^^ (XT.ushrL (0 : Int64) (33 : Int32))))])) _
    refine X0.ldc2J hx hown (mvT hZ (hw _ (List.mem_of_getElem? (i := 10) rfl))) rfl (hb hby d2_47) ?_
    show Steps p.tables e below (s₁.setTop (mkF m 50 #[.val (.ref a0), .val (.long ((0 : Int64) ^^^ (XT.ushrL (0 : Int64) (33 : Int32)))), .second, .val (.ref a0), .val (.int (0 : Int32)), .val (.int (0 : Int32)), .unset, .unset] [(.long (-49064778989728563 : Int64)), (.long ((0 : Int64) ^^^ (XT.ushrL (0 : Int64) (33 : Int32))))])) _
    refine XT.lmul X0.here hx rfl (hb hby d2_50) rfl ?_
    show Steps p.tables e below (s₁.setTop (mkF m 51 #[.val (.ref a0), .val (.long ((0 : Int64) ^^^ (XT.ushrL (0 : Int64) (33 : Int32)))), .second, .val (.ref a0), .val (.int (0 : Int32)), .val (.int (0 : Int32)), .unset, .unset] [(.long (((0 : Int64) ^^^ (XT.ushrL (0 : Int64) (33 : Int32))) * (-49064778989728563 : Int64)))])) _
    refine XT.lstoreN X0.here hx rfl (hb hby d2_51) rfl (l' := #[.val (.ref a0), .val (.long (((0 : Int64) ^^^ (XT.ushrL (0 : Int64) (33 : Int32))) * (-49064778989728563 : Int64))), .second, .val (.ref a0), .val (.int (0 : Int32)), .val (.int (0 : Int32)), .unset, .unset]) rfl ?_
    show Steps p.tables e below (s₁.setTop (mkF m 52 #[.val (.ref a0), .val (.long (((0 : Int64) ^^^ (XT.ushrL (0 : Int64) (33 : Int32))) * (-49064778989728563 : Int64))), .second, .val (.ref a0), .val (.int (0 : Int32)), .val (.int (0 : Int32)), .unset, .unset] [])) _
    refine XT.lloadN X0.here hx rfl (hb hby d2_52) rfl ?_
    show Steps p.tables e below (s₁.setTop (mkF m 53 #[.val (.ref a0), .val (.long (((0 : Int64) ^^^ (XT.ushrL (0 : Int64) (33 : Int32))) * (-49064778989728563 : Int64))), .second, .val (.ref a0), .val (.int (0 : Int32)), .val (.int (0 : Int32)), .unset, .unset] [(.long (((0 : Int64) ^^^ (XT.ushrL (0 : Int64) (33 : Int32))) * (-49064778989728563 : Int64)))])) _
    refine XT.lloadN X0.here hx rfl (hb hby d2_53) rfl ?_
    show Steps p.tables e below (s₁.setTop (mkF m 54 #[.val (.ref a0), .val (.long (((0 : Int64) ^^^ (XT.ushrL (0 : Int64) (33 : Int32))) * (-49064778989728563 : Int64))), .second, .val (.ref a0), .val (.int (0 : Int32)), .val (.int (0 : Int32)), .unset, .unset] [(.long (((0 : Int64) ^^^ (XT.ushrL (0 : Int64) (33 : Int32))) * (-49064778989728563 : Int64))), (.long (((0 : Int64) ^^^ (XT.ushrL (0 : Int64) (33 : Int32))) * (-49064778989728563 : Int64)))])) _
    refine XT.bipushV X0.here hx rfl (33 : Int32) (hb hby d2_54) (by decide) ?_
    show Steps p.tables e below (s₁.setTop (mkF m 56 #[.val (.ref a0), .val (.long (((0 : Int64) ^^^ (XT.ushrL (0 : Int64) (33 : Int32))) * (-49064778989728563 : Int64))), .second, .val (.ref a0), .val (.int (0 : Int32)), .val (.int (0 : Int32)), .unset, .unset] [(.int (33 : Int32)), (.long (((0 : Int64) ^^^ (XT.ushrL (0 : Int64) (33 : Int32))) * (-49064778989728563 : Int64))), (.long (((0 : Int64) ^^^ (XT.ushrL (0 : Int64) (33 : Int32))) * (-49064778989728563 : Int64)))])) _
    refine XT.lushr X0.here hx rfl (hb hby d2_56) rfl ?_
    show Steps p.tables e below (s₁.setTop (mkF m 57 #[.val (.ref a0), .val (.long (((0 : Int64) ^^^ (XT.ushrL (0 : Int64) (33 : Int32))) * (-49064778989728563 : Int64))), .second, .val (.ref a0), .val (.int (0 : Int32)), .val (.int (0 : Int32)), .unset, .unset] [(.long (XT.ushrL (((0 : Int64) ^^^ (XT.ushrL (0 : Int64) (33 : Int32))) * (-49064778989728563 : Int64)) (33 : Int32))), (.long (((0 : Int64) ^^^ (XT.ushrL (0 : Int64) (33 : Int32))) * (-49064778989728563 : Int64)))])) _
    refine XT.lxor X0.here hx rfl (hb hby d2_57) rfl ?_
    show Steps p.tables e below (s₁.setTop (mkF m 58 #[.val (.ref a0), .val (.long (((0 : Int64) ^^^ (XT.ushrL (0 : Int64) (33 : Int32))) * (-49064778989728563 : Int64))), .second, .val (.ref a0), .val (.int (0 : Int32)), .val (.int (0 : Int32)), .unset, .unset] [(.long ((((0 : Int64) ^^^ (XT.ushrL (0 : Int64) (33 : Int32))) * (-49064778989728563 : Int64)) ^^^ (XT.ushrL (((0 : Int64) ^^^ (XT.ushrL (0 : Int64) (33 : Int32))) * (-49064778989728563 : Int64)) (33 : Int32))))])) _
    refine XT.lstoreN X0.here hx rfl (hb hby d2_58) rfl (l' := #[.val (.ref a0), .val (.long ((((0 : Int64) ^^^ (XT.ushrL (0 : Int64) (33 : Int32))) * (-49064778989728563 : Int64)) ^^^ (XT.ushrL (((0 : Int64) ^^^ (XT.ushrL (0 : Int64) (33 : Int32))) * (-49064778989728563 : Int64)) (33 : Int32)))), .second, .val (.ref a0), .val (.int (0 : Int32)), .val (.int (0 : Int32)), .unset, .unset]) rfl ?_
    show Steps p.tables e below (s₁.setTop (mkF m 59 #[.val (.ref a0), .val (.long ((((0 : Int64) ^^^ (XT.ushrL (0 : Int64) (33 : Int32))) * (-49064778989728563 : Int64)) ^^^ (XT.ushrL (((0 : Int64) ^^^ (XT.ushrL (0 : Int64) (33 : Int32))) * (-49064778989728563 : Int64)) (33 : Int32)))), .second, .val (.ref a0), .val (.int (0 : Int32)), .val (.int (0 : Int32)), .unset, .unset] [])) _
    refine XT.lloadN X0.here hx rfl (hb hby d2_59) rfl ?_
    show Steps p.tables e below (s₁.setTop (mkF m 60 #[.val (.ref a0), .val (.long ((((0 : Int64) ^^^ (XT.ushrL (0 : Int64) (33 : Int32))) * (-49064778989728563 : Int64)) ^^^ (XT.ushrL (((0 : Int64) ^^^ (XT.ushrL (0 : Int64) (33 : Int32))) * (-49064778989728563 : Int64)) (33 : Int32)))), .second, .val (.ref a0), .val (.int (0 : Int32)), .val (.int (0 : Int32)), .unset, .unset] [(.long ((((0 : Int64) ^^^ (XT.ushrL (0 : Int64) (33 : Int32))) * (-49064778989728563 : Int64)) ^^^ (XT.ushrL (((0 : Int64) ^^^ (XT.ushrL (0 : Int64) (33 : Int32))) * (-49064778989728563 : Int64)) (33 : Int32))))])) _
    exact k)
  obtain ⟨fs, hr, hrun, hended, hW, hsame⟩ := X0.leave (v := some (.long ((((0 : Int64) ^^^ (XT.ushrL (0 : Int64) (33 : Int32))) * (-49064778989728563 : Int64)) ^^^ (XT.ushrL (((0 : Int64) ^^^ (XT.ushrL (0 : Int64) (33 : Int32))) * (-49064778989728563 : Int64)) (33 : Int32))))) (fun h => by rw [Bd.returns] at h; cases h)
  refine ⟨_, _, pre0 _ (S2 _ ?_), hrun, hended, _, _, rfl, ?_, ⟨_, rfl⟩, hW, hsame.mono (by decide) (by decide)⟩
  · exact X0.lreturnOut hx Bd.returns (hb hby d2_60) hr
  · show QrmHash0 Z a0 kk h0 n0 _ s₁.heap _
    rw [e0]
    exact ⟨rfl, N0, rfl⟩
theorem d2_18 : decode prog_59_method_9_code 18 = .ok (.aload_n 3, 1) := by decide +kernel
theorem d2_19 : decode prog_59_method_9_code 19 = .ok (.iload 5, 2) := by decide +kernel
theorem d2_21 : decode prog_59_method_9_code 21 = .ok (.laload, 1) := by decide +kernel
theorem d2_22 : decode prog_59_method_9_code 22 = .ok (.lstore 6, 2) := by decide +kernel
theorem d2_24 : decode prog_59_method_9_code 24 = .ok (.lload_n 1, 1) := by decide +kernel
theorem d2_25 : decode prog_59_method_9_code 25 = .ok (.lload 6, 2) := by decide +kernel
theorem d2_27 : decode prog_59_method_9_code 27 = .ok (.ladd, 1) := by decide +kernel
theorem d2_28 : decode prog_59_method_9_code 28 = .ok (.ldc2_w 118, 3) := by decide +kernel
theorem d2_31 : decode prog_59_method_9_code 31 = .ok (.lmul, 1) := by decide +kernel
theorem d2_32 : decode prog_59_method_9_code 32 = .ok (.lstore_n 1, 1) := by decide +kernel
theorem d2_33 : decode prog_59_method_9_code 33 = .ok (.iinc 5 1, 3) := by decide +kernel
theorem d2_36 : decode prog_59_method_9_code 36 = .ok (.goto (-25), 3) := by decide +kernel
def QrmHash1 (Z : State) (a0 : Addr) (kk : ClassId) (u0 : Int64) (h0 : Heap) (n0 : Nat) (v : Option Value) (h : Heap) (L : List Loc) : Prop := v = some (.long (own_fin (own_st (0) u0))) ∧ Fr n0 L ∧ h = h0
set_option maxRecDepth 65536 in
set_option maxHeartbeats 40000000 in
theorem rmHash1 (l : Launch) (Z : State) (av0 : Array Value) (hw : ∀ d ∈ tables_1, d.before av0 Z = true) (ws : List Jvm.Cond) (a0 : Addr) (kk : ClassId) (u0 : Int64) (h0 : Heap) (n0 : Nat) (Z0 : n0 ≤ h0.size) (Ha : Arv Z h0 a0 kk .long (1 : Int32) [(.long u0)] (.long (0 : Int64))) :
    MetFree l (⟨"com/example/bare_refinement/barerefinement/exploration/StateSpace", "hash", "([J)J"⟩ : MethodName) (head1 (Jvm.Cond.code (⟨"com/example/bare_refinement/barerefinement/exploration/StateSpace", "hash", "([J)J"⟩ : MethodName) prog_59_method_9_code 8 (some .long) :: ws) ({ frames := 0, cells := 0, slots := 0, locals := 0 } : Room)) (fun aU U => aU = #[(.ref a0)] ∧ Z.Warmed39 U.vm ∧ U.heap = h0) (fun _ _ _ _ _ => True) (fun _ U oU U' => ∃ vU LU, oU = .returned vU ∧ QrmHash1 Z a0 kk u0 h0 n0 vU U'.heap LU ∧ FrameEnd U oU U' LU ({ frames := 0, cells := 0, slots := 0, locals := 0 } : Room).cells ({ frames := 0, cells := 0, slots := 0, locals := 0 } : Room).slots) := by
  refine MetFree.of_bodySF (plainFor_of_name pn_StateSpace) hisR ?_
  intro p e s m args below meth c s₁ Bd hml0 hP hK
  obtain ⟨rfl, hZ, hh⟩ := hP
  have hx := Bd.exec
  have hby := Bd.bytes
  have hml : c.maxLocals = 8 := hml0
  have hown : s.vm.findClass "com/example/bare_refinement/barerefinement/exploration/StateSpace" = some m.cls := findClass_of_methodNamed Bd.named
  have hnm := (name_of_methodNamed Bd.named Bd.method).1
  have X0 : Stand p l e ({ frames := 0, cells := 0, slots := 0, locals := 0 } : Room) s m #[(.ref a0)] below meth c s₁ [] 0 0 := Stand.of_body Bd
  have e0 : s₁.heap = h0 := by rw [← hh, Bd.state]; rfl
  have N0 := Fr.nil n0
  have pre0 : ∀ t, Steps p.tables e below (s₁.setTop (mkF m 0 #[.val (.ref a0), .unset, .unset, .unset, .unset, .unset, .unset, .unset] [])) t → Steps p.tables e below (s₁.setTop (entryFrame m #[(.ref a0)] 8)) t := fun t k => castTop (by first | (simp [entryFrame, mkF, argsToLocals, Value.category]; done) | rfl) k
  obtain ⟨cl1, Ar1, qk1, Sz1, Ng1, Hs1, Gs1⟩ := id Ha
  obtain ⟨cl2, Ar2, qk2, Sz2, Ng2, Hs2, Gs2⟩ := id Ha
  have hin2 : ¬ ((0 : Int32) < 0 ∨ cl2.slots.size ≤ ((0 : Int32)).toNatClampNeg) := inb_of Sz2 ⟨by decide, by decide⟩
  have hat2 : cl2.slots[((0 : Int32)).toNatClampNeg]? = some (.long u0) := Hs2.at hin2 rfl
  have S3 : ∀ t, Steps p.tables e below (s₁.setTop (mkF m 60 #[.val (.ref a0), .val (.long ((((((0 : Int64) + u0) * (-7046029254386353131 : Int64)) ^^^ (XT.ushrL (((0 : Int64) + u0) * (-7046029254386353131 : Int64)) (33 : Int32))) * (-49064778989728563 : Int64)) ^^^ (XT.ushrL (((((0 : Int64) + u0) * (-7046029254386353131 : Int64)) ^^^ (XT.ushrL (((0 : Int64) + u0) * (-7046029254386353131 : Int64)) (33 : Int32))) * (-49064778989728563 : Int64)) (33 : Int32)))), .second, .val (.ref a0), .val (.int (1 : Int32)), .val (.int ((0 : Int32) + (1 : Int32))), .val (.long u0), .second] [(.long ((((((0 : Int64) + u0) * (-7046029254386353131 : Int64)) ^^^ (XT.ushrL (((0 : Int64) + u0) * (-7046029254386353131 : Int64)) (33 : Int32))) * (-49064778989728563 : Int64)) ^^^ (XT.ushrL (((((0 : Int64) + u0) * (-7046029254386353131 : Int64)) ^^^ (XT.ushrL (((0 : Int64) + u0) * (-7046029254386353131 : Int64)) (33 : Int32))) * (-49064778989728563 : Int64)) (33 : Int32))))])) t → Steps p.tables e below (s₁.setTop (mkF m 0 #[.val (.ref a0), .unset, .unset, .unset, .unset, .unset, .unset, .unset] [])) t := fun t k => id (by
    show Steps p.tables e below (s₁.setTop (mkF m 0 #[.val (.ref a0), .unset, .unset, .unset, .unset, .unset, .unset, .unset] [])) _
    refine XT.lconstV X0.here hx rfl (0 : Int64) (hb hby d2_0) (by decide) ?_
    show Steps p.tables e below (s₁.setTop (mkF m 1 #[.val (.ref a0), .unset, .unset, .unset, .unset, .unset, .unset, .unset] [(.long (0 : Int64))])) _
    refine XT.lstoreN X0.here hx rfl (hb hby d2_1) rfl (l' := #[.val (.ref a0), .val (.long (0 : Int64)), .second, .unset, .unset, .unset, .unset, .unset]) rfl ?_
    show Steps p.tables e below (s₁.setTop (mkF m 2 #[.val (.ref a0), .val (.long (0 : Int64)), .second, .unset, .unset, .unset, .unset, .unset] [])) _
    refine XS.aloadN X0.here hx rfl (hb hby d2_2) rfl rfl ?_
    show Steps p.tables e below (s₁.setTop (mkF m 3 #[.val (.ref a0), .val (.long (0 : Int64)), .second, .unset, .unset, .unset, .unset, .unset] [(.ref a0)])) _
    refine XS.astoreN X0.here hx rfl (hb hby d2_3) rfl rfl (l' := #[.val (.ref a0), .val (.long (0 : Int64)), .second, .val (.ref a0), .unset, .unset, .unset, .unset]) rfl ?_
    show Steps p.tables e below (s₁.setTop (mkF m 4 #[.val (.ref a0), .val (.long (0 : Int64)), .second, .val (.ref a0), .unset, .unset, .unset, .unset] [])) _
    refine XS.aloadN X0.here hx rfl (hb hby d2_4) rfl rfl ?_
    show Steps p.tables e below (s₁.setTop (mkF m 5 #[.val (.ref a0), .val (.long (0 : Int64)), .second, .val (.ref a0), .unset, .unset, .unset, .unset] [(.ref a0)])) _
    refine X0.arraylength hx (by rw [e0]; exact Ar1.1) (State.isArrayOf_alike hZ.alike Ar1.2.1) (g := (mkF m 5 #[.val (.ref a0), .val (.long (0 : Int64)), .second, .val (.ref a0), .unset, .unset, .unset, .unset] [(.ref a0)])) rfl rfl (hb hby d2_5) _ ?_
    rw [len_of Sz1 Ng1]
    show Steps p.tables e below (s₁.setTop (mkF m 6 #[.val (.ref a0), .val (.long (0 : Int64)), .second, .val (.ref a0), .unset, .unset, .unset, .unset] [(.int (1 : Int32))])) _
    refine XS.istore X0.here hx rfl (hb hby d2_6) rfl (l' := #[.val (.ref a0), .val (.long (0 : Int64)), .second, .val (.ref a0), .val (.int (1 : Int32)), .unset, .unset, .unset]) rfl ?_
    show Steps p.tables e below (s₁.setTop (mkF m 8 #[.val (.ref a0), .val (.long (0 : Int64)), .second, .val (.ref a0), .val (.int (1 : Int32)), .unset, .unset, .unset] [])) _
    refine XT.iconstV X0.here hx rfl (0 : Int32) (hb hby d2_8) (by decide) ?_
    show Steps p.tables e below (s₁.setTop (mkF m 9 #[.val (.ref a0), .val (.long (0 : Int64)), .second, .val (.ref a0), .val (.int (1 : Int32)), .unset, .unset, .unset] [(.int (0 : Int32))])) _
    refine XS.istore X0.here hx rfl (hb hby d2_9) rfl (l' := #[.val (.ref a0), .val (.long (0 : Int64)), .second, .val (.ref a0), .val (.int (1 : Int32)), .val (.int (0 : Int32)), .unset, .unset]) rfl ?_
    show Steps p.tables e below (s₁.setTop (mkF m 11 #[.val (.ref a0), .val (.long (0 : Int64)), .second, .val (.ref a0), .val (.int (1 : Int32)), .val (.int (0 : Int32)), .unset, .unset] [])) _
    refine XS.iload X0.here hx rfl (hb hby d2_11) rfl ?_
    show Steps p.tables e below (s₁.setTop (mkF m 13 #[.val (.ref a0), .val (.long (0 : Int64)), .second, .val (.ref a0), .val (.int (1 : Int32)), .val (.int (0 : Int32)), .unset, .unset] [(.int (0 : Int32))])) _
    refine XS.iload X0.here hx rfl (hb hby d2_13) rfl ?_
    show Steps p.tables e below (s₁.setTop (mkF m 15 #[.val (.ref a0), .val (.long (0 : Int64)), .second, .val (.ref a0), .val (.int (1 : Int32)), .val (.int (0 : Int32)), .unset, .unset] [(.int (1 : Int32)), (.int (0 : Int32))])) _
    refine XS.icmpNo X0.here hx rfl (hb hby d2_15) rfl (XT.ii_ge_f (by decide)) ?_
    show Steps p.tables e below (s₁.setTop (mkF m 18 #[.val (.ref a0), .val (.long (0 : Int64)), .second, .val (.ref a0), .val (.int (1 : Int32)), .val (.int (0 : Int32)), .unset, .unset] [])) _
    refine XS.aloadN X0.here hx rfl (hb hby d2_18) rfl rfl ?_
    show Steps p.tables e below (s₁.setTop (mkF m 19 #[.val (.ref a0), .val (.long (0 : Int64)), .second, .val (.ref a0), .val (.int (1 : Int32)), .val (.int (0 : Int32)), .unset, .unset] [(.ref a0)])) _
    refine XS.iload X0.here hx rfl (hb hby d2_19) rfl ?_
    show Steps p.tables e below (s₁.setTop (mkF m 21 #[.val (.ref a0), .val (.long (0 : Int64)), .second, .val (.ref a0), .val (.int (1 : Int32)), .val (.int (0 : Int32)), .unset, .unset] [(.int (0 : Int32)), (.ref a0)])) _
    refine X0.laload hx (j := (0 : Int32)) (v := (.long u0)) (by rw [e0]; exact Ar2.1) (State.isArrayOf_alike hZ.alike Ar2.2.1) Ar2.2.2 hin2 hat2 (g := (mkF m 21 #[.val (.ref a0), .val (.long (0 : Int64)), .second, .val (.ref a0), .val (.int (1 : Int32)), .val (.int (0 : Int32)), .unset, .unset] [(.int (0 : Int32)), (.ref a0)])) rfl rfl (hb hby d2_21) _ ?_
    show Steps p.tables e below (s₁.setTop (mkF m 22 #[.val (.ref a0), .val (.long (0 : Int64)), .second, .val (.ref a0), .val (.int (1 : Int32)), .val (.int (0 : Int32)), .unset, .unset] [(.long u0)])) _
    refine XT.lstore X0.here hx rfl (hb hby d2_22) rfl (l' := #[.val (.ref a0), .val (.long (0 : Int64)), .second, .val (.ref a0), .val (.int (1 : Int32)), .val (.int (0 : Int32)), .val (.long u0), .second]) rfl ?_
    show Steps p.tables e below (s₁.setTop (mkF m 24 #[.val (.ref a0), .val (.long (0 : Int64)), .second, .val (.ref a0), .val (.int (1 : Int32)), .val (.int (0 : Int32)), .val (.long u0), .second] [])) _
    refine XT.lloadN X0.here hx rfl (hb hby d2_24) rfl ?_
    show Steps p.tables e below (s₁.setTop (mkF m 25 #[.val (.ref a0), .val (.long (0 : Int64)), .second, .val (.ref a0), .val (.int (1 : Int32)), .val (.int (0 : Int32)), .val (.long u0), .second] [(.long (0 : Int64))])) _
    refine XT.lload X0.here hx rfl (hb hby d2_25) rfl ?_
    show Steps p.tables e below (s₁.setTop (mkF m 27 #[.val (.ref a0), .val (.long (0 : Int64)), .second, .val (.ref a0), .val (.int (1 : Int32)), .val (.int (0 : Int32)), .val (.long u0), .second] [(.long u0), (.long (0 : Int64))])) _
    refine XT.ladd X0.here hx rfl (hb hby d2_27) rfl ?_
    show Steps p.tables e below (s₁.setTop (mkF m 28 #[.val (.ref a0), .val (.long (0 : Int64)), .second, .val (.ref a0), .val (.int (1 : Int32)), .val (.int (0 : Int32)), .val (.long u0), .second] [(.long ((0 : Int64) + u0))])) _
    refine X0.ldc2J hx hown (mvT hZ (hw _ (List.mem_of_getElem? (i := 9) rfl))) rfl (hb hby d2_28) ?_
    show Steps p.tables e below (s₁.setTop (mkF m 31 #[.val (.ref a0), .val (.long (0 : Int64)), .second, .val (.ref a0), .val (.int (1 : Int32)), .val (.int (0 : Int32)), .val (.long u0), .second] [(.long (-7046029254386353131 : Int64)), (.long ((0 : Int64) + u0))])) _
    refine XT.lmul X0.here hx rfl (hb hby d2_31) rfl ?_
    show Steps p.tables e below (s₁.setTop (mkF m 32 #[.val (.ref a0), .val (.long (0 : Int64)), .second, .val (.ref a0), .val (.int (1 : Int32)), .val (.int (0 : Int32)), .val (.long u0), .second] [(.long (((0 : Int64) + u0) * (-7046029254386353131 : Int64)))])) _
    refine XT.lstoreN X0.here hx rfl (hb hby d2_32) rfl (l' := #[.val (.ref a0), .val (.long (((0 : Int64) + u0) * (-7046029254386353131 : Int64))), .second, .val (.ref a0), .val (.int (1 : Int32)), .val (.int (0 : Int32)), .val (.long u0), .second]) rfl ?_
    show Steps p.tables e below (s₁.setTop (mkF m 33 #[.val (.ref a0), .val (.long (((0 : Int64) + u0) * (-7046029254386353131 : Int64))), .second, .val (.ref a0), .val (.int (1 : Int32)), .val (.int (0 : Int32)), .val (.long u0), .second] [])) _
    refine XT.iincV X0.here hx rfl (1 : Int32) (hb hby d2_33) (by decide) rfl (l' := #[.val (.ref a0), .val (.long (((0 : Int64) + u0) * (-7046029254386353131 : Int64))), .second, .val (.ref a0), .val (.int (1 : Int32)), .val (.int ((0 : Int32) + (1 : Int32))), .val (.long u0), .second]) rfl ?_
    show Steps p.tables e below (s₁.setTop (mkF m 36 #[.val (.ref a0), .val (.long (((0 : Int64) + u0) * (-7046029254386353131 : Int64))), .second, .val (.ref a0), .val (.int (1 : Int32)), .val (.int ((0 : Int32) + (1 : Int32))), .val (.long u0), .second] [])) _
    refine XS.goto X0.here hx rfl (pc0 := 36) (pc' := 11) rfl (hb hby d2_36) (by decide) (by decide) ?_
    show Steps p.tables e below (s₁.setTop (mkF m 11 #[.val (.ref a0), .val (.long (((0 : Int64) + u0) * (-7046029254386353131 : Int64))), .second, .val (.ref a0), .val (.int (1 : Int32)), .val (.int ((0 : Int32) + (1 : Int32))), .val (.long u0), .second] [])) _
    refine XS.iload X0.here hx rfl (hb hby d2_11) rfl ?_
    show Steps p.tables e below (s₁.setTop (mkF m 13 #[.val (.ref a0), .val (.long (((0 : Int64) + u0) * (-7046029254386353131 : Int64))), .second, .val (.ref a0), .val (.int (1 : Int32)), .val (.int ((0 : Int32) + (1 : Int32))), .val (.long u0), .second] [(.int ((0 : Int32) + (1 : Int32)))])) _
    refine XS.iload X0.here hx rfl (hb hby d2_13) rfl ?_
    show Steps p.tables e below (s₁.setTop (mkF m 15 #[.val (.ref a0), .val (.long (((0 : Int64) + u0) * (-7046029254386353131 : Int64))), .second, .val (.ref a0), .val (.int (1 : Int32)), .val (.int ((0 : Int32) + (1 : Int32))), .val (.long u0), .second] [(.int (1 : Int32)), (.int ((0 : Int32) + (1 : Int32)))])) _
    refine XS.icmpYes X0.here hx rfl (pc0 := 15) (pc' := 39) rfl (hb hby d2_15) rfl (XT.ii_ge_t (by decide)) (by decide) (by decide) ?_
    show Steps p.tables e below (s₁.setTop (mkF m 39 #[.val (.ref a0), .val (.long (((0 : Int64) + u0) * (-7046029254386353131 : Int64))), .second, .val (.ref a0), .val (.int (1 : Int32)), .val (.int ((0 : Int32) + (1 : Int32))), .val (.long u0), .second] [])) _
    refine XT.lloadN X0.here hx rfl (hb hby d2_39) rfl ?_
    show Steps p.tables e below (s₁.setTop (mkF m 40 #[.val (.ref a0), .val (.long (((0 : Int64) + u0) * (-7046029254386353131 : Int64))), .second, .val (.ref a0), .val (.int (1 : Int32)), .val (.int ((0 : Int32) + (1 : Int32))), .val (.long u0), .second] [(.long (((0 : Int64) + u0) * (-7046029254386353131 : Int64)))])) _
    refine XT.lloadN X0.here hx rfl (hb hby d2_40) rfl ?_
    show Steps p.tables e below (s₁.setTop (mkF m 41 #[.val (.ref a0), .val (.long (((0 : Int64) + u0) * (-7046029254386353131 : Int64))), .second, .val (.ref a0), .val (.int (1 : Int32)), .val (.int ((0 : Int32) + (1 : Int32))), .val (.long u0), .second] [(.long (((0 : Int64) + u0) * (-7046029254386353131 : Int64))), (.long (((0 : Int64) + u0) * (-7046029254386353131 : Int64)))])) _
    refine XT.bipushV X0.here hx rfl (33 : Int32) (hb hby d2_41) (by decide) ?_
    show Steps p.tables e below (s₁.setTop (mkF m 43 #[.val (.ref a0), .val (.long (((0 : Int64) + u0) * (-7046029254386353131 : Int64))), .second, .val (.ref a0), .val (.int (1 : Int32)), .val (.int ((0 : Int32) + (1 : Int32))), .val (.long u0), .second] [(.int (33 : Int32)), (.long (((0 : Int64) + u0) * (-7046029254386353131 : Int64))), (.long (((0 : Int64) + u0) * (-7046029254386353131 : Int64)))])) _
    refine XT.lushr X0.here hx rfl (hb hby d2_43) rfl ?_
    show Steps p.tables e below (s₁.setTop (mkF m 44 #[.val (.ref a0), .val (.long (((0 : Int64) + u0) * (-7046029254386353131 : Int64))), .second, .val (.ref a0), .val (.int (1 : Int32)), .val (.int ((0 : Int32) + (1 : Int32))), .val (.long u0), .second] [(.long (XT.ushrL (((0 : Int64) + u0) * (-7046029254386353131 : Int64)) (33 : Int32))), (.long (((0 : Int64) + u0) * (-7046029254386353131 : Int64)))])) _
    refine XT.lxor X0.here hx rfl (hb hby d2_44) rfl ?_
    show Steps p.tables e below (s₁.setTop (mkF m 45 #[.val (.ref a0), .val (.long (((0 : Int64) + u0) * (-7046029254386353131 : Int64))), .second, .val (.ref a0), .val (.int (1 : Int32)), .val (.int ((0 : Int32) + (1 : Int32))), .val (.long u0), .second] [(.long ((((0 : Int64) + u0) * (-7046029254386353131 : Int64)) ^^^ (XT.ushrL (((0 : Int64) + u0) * (-7046029254386353131 : Int64)) (33 : Int32))))])) _
    refine XT.lstoreN X0.here hx rfl (hb hby d2_45) rfl (l' := #[.val (.ref a0), .val (.long ((((0 : Int64) + u0) * (-7046029254386353131 : Int64)) ^^^ (XT.ushrL (((0 : Int64) + u0) * (-7046029254386353131 : Int64)) (33 : Int32)))), .second, .val (.ref a0), .val (.int (1 : Int32)), .val (.int ((0 : Int32) + (1 : Int32))), .val (.long u0), .second]) rfl ?_
    show Steps p.tables e below (s₁.setTop (mkF m 46 #[.val (.ref a0), .val (.long ((((0 : Int64) + u0) * (-7046029254386353131 : Int64)) ^^^ (XT.ushrL (((0 : Int64) + u0) * (-7046029254386353131 : Int64)) (33 : Int32)))), .second, .val (.ref a0), .val (.int (1 : Int32)), .val (.int ((0 : Int32) + (1 : Int32))), .val (.long u0), .second] [])) _
    refine XT.lloadN X0.here hx rfl (hb hby d2_46) rfl ?_
    show Steps p.tables e below (s₁.setTop (mkF m 47 #[.val (.ref a0), .val (.long ((((0 : Int64) + u0) * (-7046029254386353131 : Int64)) ^^^ (XT.ushrL (((0 : Int64) + u0) * (-7046029254386353131 : Int64)) (33 : Int32)))), .second, .val (.ref a0), .val (.int (1 : Int32)), .val (.int ((0 : Int32) + (1 : Int32))), .val (.long u0), .second] [(.long ((((0 : Int64) + u0) * (-7046029254386353131 : Int64)) ^^^ (XT.ushrL (((0 : Int64) + u0) * (-7046029254386353131 : Int64)) (33 : Int32))))])) _
    refine X0.ldc2J hx hown (mvT hZ (hw _ (List.mem_of_getElem? (i := 10) rfl))) rfl (hb hby d2_47) ?_
    show Steps p.tables e below (s₁.setTop (mkF m 50 #[.val (.ref a0), .val (.long ((((0 : Int64) + u0) * (-7046029254386353131 : Int64)) ^^^ (XT.ushrL (((0 : Int64) + u0) * (-7046029254386353131 : Int64)) (33 : Int32)))), .second, .val (.ref a0), .val (.int (1 : Int32)), .val (.int ((0 : Int32) + (1 : Int32))), .val (.long u0), .second] [(.long (-49064778989728563 : Int64)), (.long ((((0 : Int64) + u0) * (-7046029254386353131 : Int64)) ^^^ (XT.ushrL (((0 : Int64) + u0) * (-7046029254386353131 : Int64)) (33 : Int32))))])) _
    refine XT.lmul X0.here hx rfl (hb hby d2_50) rfl ?_
    show Steps p.tables e below (s₁.setTop (mkF m 51 #[.val (.ref a0), .val (.long ((((0 : Int64) + u0) * (-7046029254386353131 : Int64)) ^^^ (XT.ushrL (((0 : Int64) + u0) * (-7046029254386353131 : Int64)) (33 : Int32)))), .second, .val (.ref a0), .val (.int (1 : Int32)), .val (.int ((0 : Int32) + (1 : Int32))), .val (.long u0), .second] [(.long (((((0 : Int64) + u0) * (-7046029254386353131 : Int64)) ^^^ (XT.ushrL (((0 : Int64) + u0) * (-7046029254386353131 : Int64)) (33 : Int32))) * (-49064778989728563 : Int64)))])) _
    refine XT.lstoreN X0.here hx rfl (hb hby d2_51) rfl (l' := #[.val (.ref a0), .val (.long (((((0 : Int64) + u0) * (-7046029254386353131 : Int64)) ^^^ (XT.ushrL (((0 : Int64) + u0) * (-7046029254386353131 : Int64)) (33 : Int32))) * (-49064778989728563 : Int64))), .second, .val (.ref a0), .val (.int (1 : Int32)), .val (.int ((0 : Int32) + (1 : Int32))), .val (.long u0), .second]) rfl ?_
    show Steps p.tables e below (s₁.setTop (mkF m 52 #[.val (.ref a0), .val (.long (((((0 : Int64) + u0) * (-7046029254386353131 : Int64)) ^^^ (XT.ushrL (((0 : Int64) + u0) * (-7046029254386353131 : Int64)) (33 : Int32))) * (-49064778989728563 : Int64))), .second, .val (.ref a0), .val (.int (1 : Int32)), .val (.int ((0 : Int32) + (1 : Int32))), .val (.long u0), .second] [])) _
    refine XT.lloadN X0.here hx rfl (hb hby d2_52) rfl ?_
    show Steps p.tables e below (s₁.setTop (mkF m 53 #[.val (.ref a0), .val (.long (((((0 : Int64) + u0) * (-7046029254386353131 : Int64)) ^^^ (XT.ushrL (((0 : Int64) + u0) * (-7046029254386353131 : Int64)) (33 : Int32))) * (-49064778989728563 : Int64))), .second, .val (.ref a0), .val (.int (1 : Int32)), .val (.int ((0 : Int32) + (1 : Int32))), .val (.long u0), .second] [(.long (((((0 : Int64) + u0) * (-7046029254386353131 : Int64)) ^^^ (XT.ushrL (((0 : Int64) + u0) * (-7046029254386353131 : Int64)) (33 : Int32))) * (-49064778989728563 : Int64)))])) _
    refine XT.lloadN X0.here hx rfl (hb hby d2_53) rfl ?_
    show Steps p.tables e below (s₁.setTop (mkF m 54 #[.val (.ref a0), .val (.long (((((0 : Int64) + u0) * (-7046029254386353131 : Int64)) ^^^ (XT.ushrL (((0 : Int64) + u0) * (-7046029254386353131 : Int64)) (33 : Int32))) * (-49064778989728563 : Int64))), .second, .val (.ref a0), .val (.int (1 : Int32)), .val (.int ((0 : Int32) + (1 : Int32))), .val (.long u0), .second] [(.long (((((0 : Int64) + u0) * (-7046029254386353131 : Int64)) ^^^ (XT.ushrL (((0 : Int64) + u0) * (-7046029254386353131 : Int64)) (33 : Int32))) * (-49064778989728563 : Int64))), (.long (((((0 : Int64) + u0) * (-7046029254386353131 : Int64)) ^^^ (XT.ushrL (((0 : Int64) + u0) * (-7046029254386353131 : Int64)) (33 : Int32))) * (-49064778989728563 : Int64)))])) _
    refine XT.bipushV X0.here hx rfl (33 : Int32) (hb hby d2_54) (by decide) ?_
    show Steps p.tables e below (s₁.setTop (mkF m 56 #[.val (.ref a0), .val (.long (((((0 : Int64) + u0) * (-7046029254386353131 : Int64)) ^^^ (XT.ushrL (((0 : Int64) + u0) * (-7046029254386353131 : Int64)) (33 : Int32))) * (-49064778989728563 : Int64))), .second, .val (.ref a0), .val (.int (1 : Int32)), .val (.int ((0 : Int32) + (1 : Int32))), .val (.long u0), .second] [(.int (33 : Int32)), (.long (((((0 : Int64) + u0) * (-7046029254386353131 : Int64)) ^^^ (XT.ushrL (((0 : Int64) + u0) * (-7046029254386353131 : Int64)) (33 : Int32))) * (-49064778989728563 : Int64))), (.long (((((0 : Int64) + u0) * (-7046029254386353131 : Int64)) ^^^ (XT.ushrL (((0 : Int64) + u0) * (-7046029254386353131 : Int64)) (33 : Int32))) * (-49064778989728563 : Int64)))])) _
    refine XT.lushr X0.here hx rfl (hb hby d2_56) rfl ?_
    show Steps p.tables e below (s₁.setTop (mkF m 57 #[.val (.ref a0), .val (.long (((((0 : Int64) + u0) * (-7046029254386353131 : Int64)) ^^^ (XT.ushrL (((0 : Int64) + u0) * (-7046029254386353131 : Int64)) (33 : Int32))) * (-49064778989728563 : Int64))), .second, .val (.ref a0), .val (.int (1 : Int32)), .val (.int ((0 : Int32) + (1 : Int32))), .val (.long u0), .second] [(.long (XT.ushrL (((((0 : Int64) + u0) * (-7046029254386353131 : Int64)) ^^^ (XT.ushrL (((0 : Int64) + u0) * (-7046029254386353131 : Int64)) (33 : Int32))) * (-49064778989728563 : Int64)) (33 : Int32))), (.long (((((0 : Int64) + u0) * (-7046029254386353131 : Int64)) ^^^ (XT.ushrL (((0 : Int64) + u0) * (-7046029254386353131 : Int64)) (33 : Int32))) * (-49064778989728563 : Int64)))])) _
    refine XT.lxor X0.here hx rfl (hb hby d2_57) rfl ?_
    show Steps p.tables e below (s₁.setTop (mkF m 58 #[.val (.ref a0), .val (.long (((((0 : Int64) + u0) * (-7046029254386353131 : Int64)) ^^^ (XT.ushrL (((0 : Int64) + u0) * (-7046029254386353131 : Int64)) (33 : Int32))) * (-49064778989728563 : Int64))), .second, .val (.ref a0), .val (.int (1 : Int32)), .val (.int ((0 : Int32) + (1 : Int32))), .val (.long u0), .second] [(.long ((((((0 : Int64) + u0) * (-7046029254386353131 : Int64)) ^^^ (XT.ushrL (((0 : Int64) + u0) * (-7046029254386353131 : Int64)) (33 : Int32))) * (-49064778989728563 : Int64)) ^^^ (XT.ushrL (((((0 : Int64) + u0) * (-7046029254386353131 : Int64)) ^^^ (XT.ushrL (((0 : Int64) + u0) * (-7046029254386353131 : Int64)) (33 : Int32))) * (-49064778989728563 : Int64)) (33 : Int32))))])) _
    refine XT.lstoreN X0.here hx rfl (hb hby d2_58) rfl (l' := #[.val (.ref a0), .val (.long ((((((0 : Int64) + u0) * (-7046029254386353131 : Int64)) ^^^ (XT.ushrL (((0 : Int64) + u0) * (-7046029254386353131 : Int64)) (33 : Int32))) * (-49064778989728563 : Int64)) ^^^ (XT.ushrL (((((0 : Int64) + u0) * (-7046029254386353131 : Int64)) ^^^ (XT.ushrL (((0 : Int64) + u0) * (-7046029254386353131 : Int64)) (33 : Int32))) * (-49064778989728563 : Int64)) (33 : Int32)))), .second, .val (.ref a0), .val (.int (1 : Int32)), .val (.int ((0 : Int32) + (1 : Int32))), .val (.long u0), .second]) rfl ?_
    show Steps p.tables e below (s₁.setTop (mkF m 59 #[.val (.ref a0), .val (.long ((((((0 : Int64) + u0) * (-7046029254386353131 : Int64)) ^^^ (XT.ushrL (((0 : Int64) + u0) * (-7046029254386353131 : Int64)) (33 : Int32))) * (-49064778989728563 : Int64)) ^^^ (XT.ushrL (((((0 : Int64) + u0) * (-7046029254386353131 : Int64)) ^^^ (XT.ushrL (((0 : Int64) + u0) * (-7046029254386353131 : Int64)) (33 : Int32))) * (-49064778989728563 : Int64)) (33 : Int32)))), .second, .val (.ref a0), .val (.int (1 : Int32)), .val (.int ((0 : Int32) + (1 : Int32))), .val (.long u0), .second] [])) _
    refine XT.lloadN X0.here hx rfl (hb hby d2_59) rfl ?_
    show Steps p.tables e below (s₁.setTop (mkF m 60 #[.val (.ref a0), .val (.long ((((((0 : Int64) + u0) * (-7046029254386353131 : Int64)) ^^^ (XT.ushrL (((0 : Int64) + u0) * (-7046029254386353131 : Int64)) (33 : Int32))) * (-49064778989728563 : Int64)) ^^^ (XT.ushrL (((((0 : Int64) + u0) * (-7046029254386353131 : Int64)) ^^^ (XT.ushrL (((0 : Int64) + u0) * (-7046029254386353131 : Int64)) (33 : Int32))) * (-49064778989728563 : Int64)) (33 : Int32)))), .second, .val (.ref a0), .val (.int (1 : Int32)), .val (.int ((0 : Int32) + (1 : Int32))), .val (.long u0), .second] [(.long ((((((0 : Int64) + u0) * (-7046029254386353131 : Int64)) ^^^ (XT.ushrL (((0 : Int64) + u0) * (-7046029254386353131 : Int64)) (33 : Int32))) * (-49064778989728563 : Int64)) ^^^ (XT.ushrL (((((0 : Int64) + u0) * (-7046029254386353131 : Int64)) ^^^ (XT.ushrL (((0 : Int64) + u0) * (-7046029254386353131 : Int64)) (33 : Int32))) * (-49064778989728563 : Int64)) (33 : Int32))))])) _
    exact k)
  obtain ⟨fs, hr, hrun, hended, hW, hsame⟩ := X0.leave (v := some (.long ((((((0 : Int64) + u0) * (-7046029254386353131 : Int64)) ^^^ (XT.ushrL (((0 : Int64) + u0) * (-7046029254386353131 : Int64)) (33 : Int32))) * (-49064778989728563 : Int64)) ^^^ (XT.ushrL (((((0 : Int64) + u0) * (-7046029254386353131 : Int64)) ^^^ (XT.ushrL (((0 : Int64) + u0) * (-7046029254386353131 : Int64)) (33 : Int32))) * (-49064778989728563 : Int64)) (33 : Int32))))) (fun h => by rw [Bd.returns] at h; cases h)
  refine ⟨_, _, pre0 _ (S3 _ ?_), hrun, hended, _, _, rfl, ?_, ⟨_, rfl⟩, hW, hsame.mono (by decide) (by decide)⟩
  · exact X0.lreturnOut hx Bd.returns (hb hby d2_60) hr
  · show QrmHash1 Z a0 kk u0 h0 n0 _ s₁.heap _
    rw [e0]
    exact ⟨rfl, N0, rfl⟩
def QrmHash2 (Z : State) (a0 : Addr) (kk : ClassId) (u0 : Int64) (u1 : Int64) (h0 : Heap) (n0 : Nat) (v : Option Value) (h : Heap) (L : List Loc) : Prop := v = some (.long (own_fin (own_st (own_st (0) u0) u1))) ∧ Fr n0 L ∧ h = h0
set_option maxRecDepth 65536 in
set_option maxHeartbeats 40000000 in
theorem rmHash2 (l : Launch) (Z : State) (av0 : Array Value) (hw : ∀ d ∈ tables_1, d.before av0 Z = true) (ws : List Jvm.Cond) (a0 : Addr) (kk : ClassId) (u0 : Int64) (u1 : Int64) (h0 : Heap) (n0 : Nat) (Z0 : n0 ≤ h0.size) (Ha : Arv Z h0 a0 kk .long (2 : Int32) [(.long u0), (.long u1)] (.long (0 : Int64))) :
    MetFree l (⟨"com/example/bare_refinement/barerefinement/exploration/StateSpace", "hash", "([J)J"⟩ : MethodName) (head1 (Jvm.Cond.code (⟨"com/example/bare_refinement/barerefinement/exploration/StateSpace", "hash", "([J)J"⟩ : MethodName) prog_59_method_9_code 8 (some .long) :: ws) ({ frames := 0, cells := 0, slots := 0, locals := 0 } : Room)) (fun aU U => aU = #[(.ref a0)] ∧ Z.Warmed39 U.vm ∧ U.heap = h0) (fun _ _ _ _ _ => True) (fun _ U oU U' => ∃ vU LU, oU = .returned vU ∧ QrmHash2 Z a0 kk u0 u1 h0 n0 vU U'.heap LU ∧ FrameEnd U oU U' LU ({ frames := 0, cells := 0, slots := 0, locals := 0 } : Room).cells ({ frames := 0, cells := 0, slots := 0, locals := 0 } : Room).slots) := by
  refine MetFree.of_bodySF (plainFor_of_name pn_StateSpace) hisR ?_
  intro p e s m args below meth c s₁ Bd hml0 hP hK
  obtain ⟨rfl, hZ, hh⟩ := hP
  have hx := Bd.exec
  have hby := Bd.bytes
  have hml : c.maxLocals = 8 := hml0
  have hown : s.vm.findClass "com/example/bare_refinement/barerefinement/exploration/StateSpace" = some m.cls := findClass_of_methodNamed Bd.named
  have hnm := (name_of_methodNamed Bd.named Bd.method).1
  have X0 : Stand p l e ({ frames := 0, cells := 0, slots := 0, locals := 0 } : Room) s m #[(.ref a0)] below meth c s₁ [] 0 0 := Stand.of_body Bd
  have e0 : s₁.heap = h0 := by rw [← hh, Bd.state]; rfl
  have N0 := Fr.nil n0
  have pre0 : ∀ t, Steps p.tables e below (s₁.setTop (mkF m 0 #[.val (.ref a0), .unset, .unset, .unset, .unset, .unset, .unset, .unset] [])) t → Steps p.tables e below (s₁.setTop (entryFrame m #[(.ref a0)] 8)) t := fun t k => castTop (by first | (simp [entryFrame, mkF, argsToLocals, Value.category]; done) | rfl) k
  obtain ⟨cl1, Ar1, qk1, Sz1, Ng1, Hs1, Gs1⟩ := id Ha
  obtain ⟨cl2, Ar2, qk2, Sz2, Ng2, Hs2, Gs2⟩ := id Ha
  have hin2 : ¬ ((0 : Int32) < 0 ∨ cl2.slots.size ≤ ((0 : Int32)).toNatClampNeg) := inb_of Sz2 ⟨by decide, by decide⟩
  have hat2 : cl2.slots[((0 : Int32)).toNatClampNeg]? = some (.long u0) := Hs2.at hin2 rfl
  obtain ⟨cl3, Ar3, qk3, Sz3, Ng3, Hs3, Gs3⟩ := id Ha
  have hin3 : ¬ (((0 : Int32) + (1 : Int32)) < 0 ∨ cl3.slots.size ≤ (((0 : Int32) + (1 : Int32))).toNatClampNeg) := inb_of Sz3 ⟨by decide, by decide⟩
  have hat3 : cl3.slots[(((0 : Int32) + (1 : Int32))).toNatClampNeg]? = some (.long u1) := Hs3.at hin3 rfl
  have S4 : ∀ t, Steps p.tables e below (s₁.setTop (mkF m 60 #[.val (.ref a0), .val (.long ((((((((0 : Int64) + u0) * (-7046029254386353131 : Int64)) + u1) * (-7046029254386353131 : Int64)) ^^^ (XT.ushrL (((((0 : Int64) + u0) * (-7046029254386353131 : Int64)) + u1) * (-7046029254386353131 : Int64)) (33 : Int32))) * (-49064778989728563 : Int64)) ^^^ (XT.ushrL (((((((0 : Int64) + u0) * (-7046029254386353131 : Int64)) + u1) * (-7046029254386353131 : Int64)) ^^^ (XT.ushrL (((((0 : Int64) + u0) * (-7046029254386353131 : Int64)) + u1) * (-7046029254386353131 : Int64)) (33 : Int32))) * (-49064778989728563 : Int64)) (33 : Int32)))), .second, .val (.ref a0), .val (.int (2 : Int32)), .val (.int (((0 : Int32) + (1 : Int32)) + (1 : Int32))), .val (.long u1), .second] [(.long ((((((((0 : Int64) + u0) * (-7046029254386353131 : Int64)) + u1) * (-7046029254386353131 : Int64)) ^^^ (XT.ushrL (((((0 : Int64) + u0) * (-7046029254386353131 : Int64)) + u1) * (-7046029254386353131 : Int64)) (33 : Int32))) * (-49064778989728563 : Int64)) ^^^ (XT.ushrL (((((((0 : Int64) + u0) * (-7046029254386353131 : Int64)) + u1) * (-7046029254386353131 : Int64)) ^^^ (XT.ushrL (((((0 : Int64) + u0) * (-7046029254386353131 : Int64)) + u1) * (-7046029254386353131 : Int64)) (33 : Int32))) * (-49064778989728563 : Int64)) (33 : Int32))))])) t → Steps p.tables e below (s₁.setTop (mkF m 0 #[.val (.ref a0), .unset, .unset, .unset, .unset, .unset, .unset, .unset] [])) t := fun t k => id (by
    show Steps p.tables e below (s₁.setTop (mkF m 0 #[.val (.ref a0), .unset, .unset, .unset, .unset, .unset, .unset, .unset] [])) _
    refine XT.lconstV X0.here hx rfl (0 : Int64) (hb hby d2_0) (by decide) ?_
    show Steps p.tables e below (s₁.setTop (mkF m 1 #[.val (.ref a0), .unset, .unset, .unset, .unset, .unset, .unset, .unset] [(.long (0 : Int64))])) _
    refine XT.lstoreN X0.here hx rfl (hb hby d2_1) rfl (l' := #[.val (.ref a0), .val (.long (0 : Int64)), .second, .unset, .unset, .unset, .unset, .unset]) rfl ?_
    show Steps p.tables e below (s₁.setTop (mkF m 2 #[.val (.ref a0), .val (.long (0 : Int64)), .second, .unset, .unset, .unset, .unset, .unset] [])) _
    refine XS.aloadN X0.here hx rfl (hb hby d2_2) rfl rfl ?_
    show Steps p.tables e below (s₁.setTop (mkF m 3 #[.val (.ref a0), .val (.long (0 : Int64)), .second, .unset, .unset, .unset, .unset, .unset] [(.ref a0)])) _
    refine XS.astoreN X0.here hx rfl (hb hby d2_3) rfl rfl (l' := #[.val (.ref a0), .val (.long (0 : Int64)), .second, .val (.ref a0), .unset, .unset, .unset, .unset]) rfl ?_
    show Steps p.tables e below (s₁.setTop (mkF m 4 #[.val (.ref a0), .val (.long (0 : Int64)), .second, .val (.ref a0), .unset, .unset, .unset, .unset] [])) _
    refine XS.aloadN X0.here hx rfl (hb hby d2_4) rfl rfl ?_
    show Steps p.tables e below (s₁.setTop (mkF m 5 #[.val (.ref a0), .val (.long (0 : Int64)), .second, .val (.ref a0), .unset, .unset, .unset, .unset] [(.ref a0)])) _
    refine X0.arraylength hx (by rw [e0]; exact Ar1.1) (State.isArrayOf_alike hZ.alike Ar1.2.1) (g := (mkF m 5 #[.val (.ref a0), .val (.long (0 : Int64)), .second, .val (.ref a0), .unset, .unset, .unset, .unset] [(.ref a0)])) rfl rfl (hb hby d2_5) _ ?_
    rw [len_of Sz1 Ng1]
    show Steps p.tables e below (s₁.setTop (mkF m 6 #[.val (.ref a0), .val (.long (0 : Int64)), .second, .val (.ref a0), .unset, .unset, .unset, .unset] [(.int (2 : Int32))])) _
    refine XS.istore X0.here hx rfl (hb hby d2_6) rfl (l' := #[.val (.ref a0), .val (.long (0 : Int64)), .second, .val (.ref a0), .val (.int (2 : Int32)), .unset, .unset, .unset]) rfl ?_
    show Steps p.tables e below (s₁.setTop (mkF m 8 #[.val (.ref a0), .val (.long (0 : Int64)), .second, .val (.ref a0), .val (.int (2 : Int32)), .unset, .unset, .unset] [])) _
    refine XT.iconstV X0.here hx rfl (0 : Int32) (hb hby d2_8) (by decide) ?_
    show Steps p.tables e below (s₁.setTop (mkF m 9 #[.val (.ref a0), .val (.long (0 : Int64)), .second, .val (.ref a0), .val (.int (2 : Int32)), .unset, .unset, .unset] [(.int (0 : Int32))])) _
    refine XS.istore X0.here hx rfl (hb hby d2_9) rfl (l' := #[.val (.ref a0), .val (.long (0 : Int64)), .second, .val (.ref a0), .val (.int (2 : Int32)), .val (.int (0 : Int32)), .unset, .unset]) rfl ?_
    show Steps p.tables e below (s₁.setTop (mkF m 11 #[.val (.ref a0), .val (.long (0 : Int64)), .second, .val (.ref a0), .val (.int (2 : Int32)), .val (.int (0 : Int32)), .unset, .unset] [])) _
    refine XS.iload X0.here hx rfl (hb hby d2_11) rfl ?_
    show Steps p.tables e below (s₁.setTop (mkF m 13 #[.val (.ref a0), .val (.long (0 : Int64)), .second, .val (.ref a0), .val (.int (2 : Int32)), .val (.int (0 : Int32)), .unset, .unset] [(.int (0 : Int32))])) _
    refine XS.iload X0.here hx rfl (hb hby d2_13) rfl ?_
    show Steps p.tables e below (s₁.setTop (mkF m 15 #[.val (.ref a0), .val (.long (0 : Int64)), .second, .val (.ref a0), .val (.int (2 : Int32)), .val (.int (0 : Int32)), .unset, .unset] [(.int (2 : Int32)), (.int (0 : Int32))])) _
    refine XS.icmpNo X0.here hx rfl (hb hby d2_15) rfl (XT.ii_ge_f (by decide)) ?_
    show Steps p.tables e below (s₁.setTop (mkF m 18 #[.val (.ref a0), .val (.long (0 : Int64)), .second, .val (.ref a0), .val (.int (2 : Int32)), .val (.int (0 : Int32)), .unset, .unset] [])) _
    refine XS.aloadN X0.here hx rfl (hb hby d2_18) rfl rfl ?_
    show Steps p.tables e below (s₁.setTop (mkF m 19 #[.val (.ref a0), .val (.long (0 : Int64)), .second, .val (.ref a0), .val (.int (2 : Int32)), .val (.int (0 : Int32)), .unset, .unset] [(.ref a0)])) _
    refine XS.iload X0.here hx rfl (hb hby d2_19) rfl ?_
    show Steps p.tables e below (s₁.setTop (mkF m 21 #[.val (.ref a0), .val (.long (0 : Int64)), .second, .val (.ref a0), .val (.int (2 : Int32)), .val (.int (0 : Int32)), .unset, .unset] [(.int (0 : Int32)), (.ref a0)])) _
    refine X0.laload hx (j := (0 : Int32)) (v := (.long u0)) (by rw [e0]; exact Ar2.1) (State.isArrayOf_alike hZ.alike Ar2.2.1) Ar2.2.2 hin2 hat2 (g := (mkF m 21 #[.val (.ref a0), .val (.long (0 : Int64)), .second, .val (.ref a0), .val (.int (2 : Int32)), .val (.int (0 : Int32)), .unset, .unset] [(.int (0 : Int32)), (.ref a0)])) rfl rfl (hb hby d2_21) _ ?_
    show Steps p.tables e below (s₁.setTop (mkF m 22 #[.val (.ref a0), .val (.long (0 : Int64)), .second, .val (.ref a0), .val (.int (2 : Int32)), .val (.int (0 : Int32)), .unset, .unset] [(.long u0)])) _
    refine XT.lstore X0.here hx rfl (hb hby d2_22) rfl (l' := #[.val (.ref a0), .val (.long (0 : Int64)), .second, .val (.ref a0), .val (.int (2 : Int32)), .val (.int (0 : Int32)), .val (.long u0), .second]) rfl ?_
    show Steps p.tables e below (s₁.setTop (mkF m 24 #[.val (.ref a0), .val (.long (0 : Int64)), .second, .val (.ref a0), .val (.int (2 : Int32)), .val (.int (0 : Int32)), .val (.long u0), .second] [])) _
    refine XT.lloadN X0.here hx rfl (hb hby d2_24) rfl ?_
    show Steps p.tables e below (s₁.setTop (mkF m 25 #[.val (.ref a0), .val (.long (0 : Int64)), .second, .val (.ref a0), .val (.int (2 : Int32)), .val (.int (0 : Int32)), .val (.long u0), .second] [(.long (0 : Int64))])) _
    refine XT.lload X0.here hx rfl (hb hby d2_25) rfl ?_
    show Steps p.tables e below (s₁.setTop (mkF m 27 #[.val (.ref a0), .val (.long (0 : Int64)), .second, .val (.ref a0), .val (.int (2 : Int32)), .val (.int (0 : Int32)), .val (.long u0), .second] [(.long u0), (.long (0 : Int64))])) _
    refine XT.ladd X0.here hx rfl (hb hby d2_27) rfl ?_
    show Steps p.tables e below (s₁.setTop (mkF m 28 #[.val (.ref a0), .val (.long (0 : Int64)), .second, .val (.ref a0), .val (.int (2 : Int32)), .val (.int (0 : Int32)), .val (.long u0), .second] [(.long ((0 : Int64) + u0))])) _
    refine X0.ldc2J hx hown (mvT hZ (hw _ (List.mem_of_getElem? (i := 9) rfl))) rfl (hb hby d2_28) ?_
    show Steps p.tables e below (s₁.setTop (mkF m 31 #[.val (.ref a0), .val (.long (0 : Int64)), .second, .val (.ref a0), .val (.int (2 : Int32)), .val (.int (0 : Int32)), .val (.long u0), .second] [(.long (-7046029254386353131 : Int64)), (.long ((0 : Int64) + u0))])) _
    refine XT.lmul X0.here hx rfl (hb hby d2_31) rfl ?_
    show Steps p.tables e below (s₁.setTop (mkF m 32 #[.val (.ref a0), .val (.long (0 : Int64)), .second, .val (.ref a0), .val (.int (2 : Int32)), .val (.int (0 : Int32)), .val (.long u0), .second] [(.long (((0 : Int64) + u0) * (-7046029254386353131 : Int64)))])) _
    refine XT.lstoreN X0.here hx rfl (hb hby d2_32) rfl (l' := #[.val (.ref a0), .val (.long (((0 : Int64) + u0) * (-7046029254386353131 : Int64))), .second, .val (.ref a0), .val (.int (2 : Int32)), .val (.int (0 : Int32)), .val (.long u0), .second]) rfl ?_
    show Steps p.tables e below (s₁.setTop (mkF m 33 #[.val (.ref a0), .val (.long (((0 : Int64) + u0) * (-7046029254386353131 : Int64))), .second, .val (.ref a0), .val (.int (2 : Int32)), .val (.int (0 : Int32)), .val (.long u0), .second] [])) _
    refine XT.iincV X0.here hx rfl (1 : Int32) (hb hby d2_33) (by decide) rfl (l' := #[.val (.ref a0), .val (.long (((0 : Int64) + u0) * (-7046029254386353131 : Int64))), .second, .val (.ref a0), .val (.int (2 : Int32)), .val (.int ((0 : Int32) + (1 : Int32))), .val (.long u0), .second]) rfl ?_
    show Steps p.tables e below (s₁.setTop (mkF m 36 #[.val (.ref a0), .val (.long (((0 : Int64) + u0) * (-7046029254386353131 : Int64))), .second, .val (.ref a0), .val (.int (2 : Int32)), .val (.int ((0 : Int32) + (1 : Int32))), .val (.long u0), .second] [])) _
    refine XS.goto X0.here hx rfl (pc0 := 36) (pc' := 11) rfl (hb hby d2_36) (by decide) (by decide) ?_
    show Steps p.tables e below (s₁.setTop (mkF m 11 #[.val (.ref a0), .val (.long (((0 : Int64) + u0) * (-7046029254386353131 : Int64))), .second, .val (.ref a0), .val (.int (2 : Int32)), .val (.int ((0 : Int32) + (1 : Int32))), .val (.long u0), .second] [])) _
    refine XS.iload X0.here hx rfl (hb hby d2_11) rfl ?_
    show Steps p.tables e below (s₁.setTop (mkF m 13 #[.val (.ref a0), .val (.long (((0 : Int64) + u0) * (-7046029254386353131 : Int64))), .second, .val (.ref a0), .val (.int (2 : Int32)), .val (.int ((0 : Int32) + (1 : Int32))), .val (.long u0), .second] [(.int ((0 : Int32) + (1 : Int32)))])) _
    refine XS.iload X0.here hx rfl (hb hby d2_13) rfl ?_
    show Steps p.tables e below (s₁.setTop (mkF m 15 #[.val (.ref a0), .val (.long (((0 : Int64) + u0) * (-7046029254386353131 : Int64))), .second, .val (.ref a0), .val (.int (2 : Int32)), .val (.int ((0 : Int32) + (1 : Int32))), .val (.long u0), .second] [(.int (2 : Int32)), (.int ((0 : Int32) + (1 : Int32)))])) _
    refine XS.icmpNo X0.here hx rfl (hb hby d2_15) rfl (XT.ii_ge_f (by decide)) ?_
    show Steps p.tables e below (s₁.setTop (mkF m 18 #[.val (.ref a0), .val (.long (((0 : Int64) + u0) * (-7046029254386353131 : Int64))), .second, .val (.ref a0), .val (.int (2 : Int32)), .val (.int ((0 : Int32) + (1 : Int32))), .val (.long u0), .second] [])) _
    refine XS.aloadN X0.here hx rfl (hb hby d2_18) rfl rfl ?_
    show Steps p.tables e below (s₁.setTop (mkF m 19 #[.val (.ref a0), .val (.long (((0 : Int64) + u0) * (-7046029254386353131 : Int64))), .second, .val (.ref a0), .val (.int (2 : Int32)), .val (.int ((0 : Int32) + (1 : Int32))), .val (.long u0), .second] [(.ref a0)])) _
    refine XS.iload X0.here hx rfl (hb hby d2_19) rfl ?_
    show Steps p.tables e below (s₁.setTop (mkF m 21 #[.val (.ref a0), .val (.long (((0 : Int64) + u0) * (-7046029254386353131 : Int64))), .second, .val (.ref a0), .val (.int (2 : Int32)), .val (.int ((0 : Int32) + (1 : Int32))), .val (.long u0), .second] [(.int ((0 : Int32) + (1 : Int32))), (.ref a0)])) _
    refine X0.laload hx (j := ((0 : Int32) + (1 : Int32))) (v := (.long u1)) (by rw [e0]; exact Ar3.1) (State.isArrayOf_alike hZ.alike Ar3.2.1) Ar3.2.2 hin3 hat3 (g := (mkF m 21 #[.val (.ref a0), .val (.long (((0 : Int64) + u0) * (-7046029254386353131 : Int64))), .second, .val (.ref a0), .val (.int (2 : Int32)), .val (.int ((0 : Int32) + (1 : Int32))), .val (.long u0), .second] [(.int ((0 : Int32) + (1 : Int32))), (.ref a0)])) rfl rfl (hb hby d2_21) _ ?_
    show Steps p.tables e below (s₁.setTop (mkF m 22 #[.val (.ref a0), .val (.long (((0 : Int64) + u0) * (-7046029254386353131 : Int64))), .second, .val (.ref a0), .val (.int (2 : Int32)), .val (.int ((0 : Int32) + (1 : Int32))), .val (.long u0), .second] [(.long u1)])) _
    refine XT.lstore X0.here hx rfl (hb hby d2_22) rfl (l' := #[.val (.ref a0), .val (.long (((0 : Int64) + u0) * (-7046029254386353131 : Int64))), .second, .val (.ref a0), .val (.int (2 : Int32)), .val (.int ((0 : Int32) + (1 : Int32))), .val (.long u1), .second]) rfl ?_
    show Steps p.tables e below (s₁.setTop (mkF m 24 #[.val (.ref a0), .val (.long (((0 : Int64) + u0) * (-7046029254386353131 : Int64))), .second, .val (.ref a0), .val (.int (2 : Int32)), .val (.int ((0 : Int32) + (1 : Int32))), .val (.long u1), .second] [])) _
    refine XT.lloadN X0.here hx rfl (hb hby d2_24) rfl ?_
    show Steps p.tables e below (s₁.setTop (mkF m 25 #[.val (.ref a0), .val (.long (((0 : Int64) + u0) * (-7046029254386353131 : Int64))), .second, .val (.ref a0), .val (.int (2 : Int32)), .val (.int ((0 : Int32) + (1 : Int32))), .val (.long u1), .second] [(.long (((0 : Int64) + u0) * (-7046029254386353131 : Int64)))])) _
    refine XT.lload X0.here hx rfl (hb hby d2_25) rfl ?_
    show Steps p.tables e below (s₁.setTop (mkF m 27 #[.val (.ref a0), .val (.long (((0 : Int64) + u0) * (-7046029254386353131 : Int64))), .second, .val (.ref a0), .val (.int (2 : Int32)), .val (.int ((0 : Int32) + (1 : Int32))), .val (.long u1), .second] [(.long u1), (.long (((0 : Int64) + u0) * (-7046029254386353131 : Int64)))])) _
    refine XT.ladd X0.here hx rfl (hb hby d2_27) rfl ?_
    show Steps p.tables e below (s₁.setTop (mkF m 28 #[.val (.ref a0), .val (.long (((0 : Int64) + u0) * (-7046029254386353131 : Int64))), .second, .val (.ref a0), .val (.int (2 : Int32)), .val (.int ((0 : Int32) + (1 : Int32))), .val (.long u1), .second] [(.long ((((0 : Int64) + u0) * (-7046029254386353131 : Int64)) + u1))])) _
    refine X0.ldc2J hx hown (mvT hZ (hw _ (List.mem_of_getElem? (i := 9) rfl))) rfl (hb hby d2_28) ?_
    show Steps p.tables e below (s₁.setTop (mkF m 31 #[.val (.ref a0), .val (.long (((0 : Int64) + u0) * (-7046029254386353131 : Int64))), .second, .val (.ref a0), .val (.int (2 : Int32)), .val (.int ((0 : Int32) + (1 : Int32))), .val (.long u1), .second] [(.long (-7046029254386353131 : Int64)), (.long ((((0 : Int64) + u0) * (-7046029254386353131 : Int64)) + u1))])) _
    refine XT.lmul X0.here hx rfl (hb hby d2_31) rfl ?_
    show Steps p.tables e below (s₁.setTop (mkF m 32 #[.val (.ref a0), .val (.long (((0 : Int64) + u0) * (-7046029254386353131 : Int64))), .second, .val (.ref a0), .val (.int (2 : Int32)), .val (.int ((0 : Int32) + (1 : Int32))), .val (.long u1), .second] [(.long (((((0 : Int64) + u0) * (-7046029254386353131 : Int64)) + u1) * (-7046029254386353131 : Int64)))])) _
    refine XT.lstoreN X0.here hx rfl (hb hby d2_32) rfl (l' := #[.val (.ref a0), .val (.long (((((0 : Int64) + u0) * (-7046029254386353131 : Int64)) + u1) * (-7046029254386353131 : Int64))), .second, .val (.ref a0), .val (.int (2 : Int32)), .val (.int ((0 : Int32) + (1 : Int32))), .val (.long u1), .second]) rfl ?_
    show Steps p.tables e below (s₁.setTop (mkF m 33 #[.val (.ref a0), .val (.long (((((0 : Int64) + u0) * (-7046029254386353131 : Int64)) + u1) * (-7046029254386353131 : Int64))), .second, .val (.ref a0), .val (.int (2 : Int32)), .val (.int ((0 : Int32) + (1 : Int32))), .val (.long u1), .second] [])) _
    refine XT.iincV X0.here hx rfl (1 : Int32) (hb hby d2_33) (by decide) rfl (l' := #[.val (.ref a0), .val (.long (((((0 : Int64) + u0) * (-7046029254386353131 : Int64)) + u1) * (-7046029254386353131 : Int64))), .second, .val (.ref a0), .val (.int (2 : Int32)), .val (.int (((0 : Int32) + (1 : Int32)) + (1 : Int32))), .val (.long u1), .second]) rfl ?_
    show Steps p.tables e below (s₁.setTop (mkF m 36 #[.val (.ref a0), .val (.long (((((0 : Int64) + u0) * (-7046029254386353131 : Int64)) + u1) * (-7046029254386353131 : Int64))), .second, .val (.ref a0), .val (.int (2 : Int32)), .val (.int (((0 : Int32) + (1 : Int32)) + (1 : Int32))), .val (.long u1), .second] [])) _
    refine XS.goto X0.here hx rfl (pc0 := 36) (pc' := 11) rfl (hb hby d2_36) (by decide) (by decide) ?_
    show Steps p.tables e below (s₁.setTop (mkF m 11 #[.val (.ref a0), .val (.long (((((0 : Int64) + u0) * (-7046029254386353131 : Int64)) + u1) * (-7046029254386353131 : Int64))), .second, .val (.ref a0), .val (.int (2 : Int32)), .val (.int (((0 : Int32) + (1 : Int32)) + (1 : Int32))), .val (.long u1), .second] [])) _
    refine XS.iload X0.here hx rfl (hb hby d2_11) rfl ?_
    show Steps p.tables e below (s₁.setTop (mkF m 13 #[.val (.ref a0), .val (.long (((((0 : Int64) + u0) * (-7046029254386353131 : Int64)) + u1) * (-7046029254386353131 : Int64))), .second, .val (.ref a0), .val (.int (2 : Int32)), .val (.int (((0 : Int32) + (1 : Int32)) + (1 : Int32))), .val (.long u1), .second] [(.int (((0 : Int32) + (1 : Int32)) + (1 : Int32)))])) _
    refine XS.iload X0.here hx rfl (hb hby d2_13) rfl ?_
    show Steps p.tables e below (s₁.setTop (mkF m 15 #[.val (.ref a0), .val (.long (((((0 : Int64) + u0) * (-7046029254386353131 : Int64)) + u1) * (-7046029254386353131 : Int64))), .second, .val (.ref a0), .val (.int (2 : Int32)), .val (.int (((0 : Int32) + (1 : Int32)) + (1 : Int32))), .val (.long u1), .second] [(.int (2 : Int32)), (.int (((0 : Int32) + (1 : Int32)) + (1 : Int32)))])) _
    refine XS.icmpYes X0.here hx rfl (pc0 := 15) (pc' := 39) rfl (hb hby d2_15) rfl (XT.ii_ge_t (by decide)) (by decide) (by decide) ?_
    show Steps p.tables e below (s₁.setTop (mkF m 39 #[.val (.ref a0), .val (.long (((((0 : Int64) + u0) * (-7046029254386353131 : Int64)) + u1) * (-7046029254386353131 : Int64))), .second, .val (.ref a0), .val (.int (2 : Int32)), .val (.int (((0 : Int32) + (1 : Int32)) + (1 : Int32))), .val (.long u1), .second] [])) _
    refine XT.lloadN X0.here hx rfl (hb hby d2_39) rfl ?_
    show Steps p.tables e below (s₁.setTop (mkF m 40 #[.val (.ref a0), .val (.long (((((0 : Int64) + u0) * (-7046029254386353131 : Int64)) + u1) * (-7046029254386353131 : Int64))), .second, .val (.ref a0), .val (.int (2 : Int32)), .val (.int (((0 : Int32) + (1 : Int32)) + (1 : Int32))), .val (.long u1), .second] [(.long (((((0 : Int64) + u0) * (-7046029254386353131 : Int64)) + u1) * (-7046029254386353131 : Int64)))])) _
    refine XT.lloadN X0.here hx rfl (hb hby d2_40) rfl ?_
    show Steps p.tables e below (s₁.setTop (mkF m 41 #[.val (.ref a0), .val (.long (((((0 : Int64) + u0) * (-7046029254386353131 : Int64)) + u1) * (-7046029254386353131 : Int64))), .second, .val (.ref a0), .val (.int (2 : Int32)), .val (.int (((0 : Int32) + (1 : Int32)) + (1 : Int32))), .val (.long u1), .second] [(.long (((((0 : Int64) + u0) * (-7046029254386353131 : Int64)) + u1) * (-7046029254386353131 : Int64))), (.long (((((0 : Int64) + u0) * (-7046029254386353131 : Int64)) + u1) * (-7046029254386353131 : Int64)))])) _
    refine XT.bipushV X0.here hx rfl (33 : Int32) (hb hby d2_41) (by decide) ?_
    show Steps p.tables e below (s₁.setTop (mkF m 43 #[.val (.ref a0), .val (.long (((((0 : Int64) + u0) * (-7046029254386353131 : Int64)) + u1) * (-7046029254386353131 : Int64))), .second, .val (.ref a0), .val (.int (2 : Int32)), .val (.int (((0 : Int32) + (1 : Int32)) + (1 : Int32))), .val (.long u1), .second] [(.int (33 : Int32)), (.long (((((0 : Int64) + u0) * (-7046029254386353131 : Int64)) + u1) * (-7046029254386353131 : Int64))), (.long (((((0 : Int64) + u0) * (-7046029254386353131 : Int64)) + u1) * (-7046029254386353131 : Int64)))])) _
    refine XT.lushr X0.here hx rfl (hb hby d2_43) rfl ?_
    show Steps p.tables e below (s₁.setTop (mkF m 44 #[.val (.ref a0), .val (.long (((((0 : Int64) + u0) * (-7046029254386353131 : Int64)) + u1) * (-7046029254386353131 : Int64))), .second, .val (.ref a0), .val (.int (2 : Int32)), .val (.int (((0 : Int32) + (1 : Int32)) + (1 : Int32))), .val (.long u1), .second] [(.long (XT.ushrL (((((0 : Int64) + u0) * (-7046029254386353131 : Int64)) + u1) * (-7046029254386353131 : Int64)) (33 : Int32))), (.long (((((0 : Int64) + u0) * (-7046029254386353131 : Int64)) + u1) * (-7046029254386353131 : Int64)))])) _
    refine XT.lxor X0.here hx rfl (hb hby d2_44) rfl ?_
    show Steps p.tables e below (s₁.setTop (mkF m 45 #[.val (.ref a0), .val (.long (((((0 : Int64) + u0) * (-7046029254386353131 : Int64)) + u1) * (-7046029254386353131 : Int64))), .second, .val (.ref a0), .val (.int (2 : Int32)), .val (.int (((0 : Int32) + (1 : Int32)) + (1 : Int32))), .val (.long u1), .second] [(.long ((((((0 : Int64) + u0) * (-7046029254386353131 : Int64)) + u1) * (-7046029254386353131 : Int64)) ^^^ (XT.ushrL (((((0 : Int64) + u0) * (-7046029254386353131 : Int64)) + u1) * (-7046029254386353131 : Int64)) (33 : Int32))))])) _
    refine XT.lstoreN X0.here hx rfl (hb hby d2_45) rfl (l' := #[.val (.ref a0), .val (.long ((((((0 : Int64) + u0) * (-7046029254386353131 : Int64)) + u1) * (-7046029254386353131 : Int64)) ^^^ (XT.ushrL (((((0 : Int64) + u0) * (-7046029254386353131 : Int64)) + u1) * (-7046029254386353131 : Int64)) (33 : Int32)))), .second, .val (.ref a0), .val (.int (2 : Int32)), .val (.int (((0 : Int32) + (1 : Int32)) + (1 : Int32))), .val (.long u1), .second]) rfl ?_
    show Steps p.tables e below (s₁.setTop (mkF m 46 #[.val (.ref a0), .val (.long ((((((0 : Int64) + u0) * (-7046029254386353131 : Int64)) + u1) * (-7046029254386353131 : Int64)) ^^^ (XT.ushrL (((((0 : Int64) + u0) * (-7046029254386353131 : Int64)) + u1) * (-7046029254386353131 : Int64)) (33 : Int32)))), .second, .val (.ref a0), .val (.int (2 : Int32)), .val (.int (((0 : Int32) + (1 : Int32)) + (1 : Int32))), .val (.long u1), .second] [])) _
    refine XT.lloadN X0.here hx rfl (hb hby d2_46) rfl ?_
    show Steps p.tables e below (s₁.setTop (mkF m 47 #[.val (.ref a0), .val (.long ((((((0 : Int64) + u0) * (-7046029254386353131 : Int64)) + u1) * (-7046029254386353131 : Int64)) ^^^ (XT.ushrL (((((0 : Int64) + u0) * (-7046029254386353131 : Int64)) + u1) * (-7046029254386353131 : Int64)) (33 : Int32)))), .second, .val (.ref a0), .val (.int (2 : Int32)), .val (.int (((0 : Int32) + (1 : Int32)) + (1 : Int32))), .val (.long u1), .second] [(.long ((((((0 : Int64) + u0) * (-7046029254386353131 : Int64)) + u1) * (-7046029254386353131 : Int64)) ^^^ (XT.ushrL (((((0 : Int64) + u0) * (-7046029254386353131 : Int64)) + u1) * (-7046029254386353131 : Int64)) (33 : Int32))))])) _
    refine X0.ldc2J hx hown (mvT hZ (hw _ (List.mem_of_getElem? (i := 10) rfl))) rfl (hb hby d2_47) ?_
    show Steps p.tables e below (s₁.setTop (mkF m 50 #[.val (.ref a0), .val (.long ((((((0 : Int64) + u0) * (-7046029254386353131 : Int64)) + u1) * (-7046029254386353131 : Int64)) ^^^ (XT.ushrL (((((0 : Int64) + u0) * (-7046029254386353131 : Int64)) + u1) * (-7046029254386353131 : Int64)) (33 : Int32)))), .second, .val (.ref a0), .val (.int (2 : Int32)), .val (.int (((0 : Int32) + (1 : Int32)) + (1 : Int32))), .val (.long u1), .second] [(.long (-49064778989728563 : Int64)), (.long ((((((0 : Int64) + u0) * (-7046029254386353131 : Int64)) + u1) * (-7046029254386353131 : Int64)) ^^^ (XT.ushrL (((((0 : Int64) + u0) * (-7046029254386353131 : Int64)) + u1) * (-7046029254386353131 : Int64)) (33 : Int32))))])) _
    refine XT.lmul X0.here hx rfl (hb hby d2_50) rfl ?_
    show Steps p.tables e below (s₁.setTop (mkF m 51 #[.val (.ref a0), .val (.long ((((((0 : Int64) + u0) * (-7046029254386353131 : Int64)) + u1) * (-7046029254386353131 : Int64)) ^^^ (XT.ushrL (((((0 : Int64) + u0) * (-7046029254386353131 : Int64)) + u1) * (-7046029254386353131 : Int64)) (33 : Int32)))), .second, .val (.ref a0), .val (.int (2 : Int32)), .val (.int (((0 : Int32) + (1 : Int32)) + (1 : Int32))), .val (.long u1), .second] [(.long (((((((0 : Int64) + u0) * (-7046029254386353131 : Int64)) + u1) * (-7046029254386353131 : Int64)) ^^^ (XT.ushrL (((((0 : Int64) + u0) * (-7046029254386353131 : Int64)) + u1) * (-7046029254386353131 : Int64)) (33 : Int32))) * (-49064778989728563 : Int64)))])) _
    refine XT.lstoreN X0.here hx rfl (hb hby d2_51) rfl (l' := #[.val (.ref a0), .val (.long (((((((0 : Int64) + u0) * (-7046029254386353131 : Int64)) + u1) * (-7046029254386353131 : Int64)) ^^^ (XT.ushrL (((((0 : Int64) + u0) * (-7046029254386353131 : Int64)) + u1) * (-7046029254386353131 : Int64)) (33 : Int32))) * (-49064778989728563 : Int64))), .second, .val (.ref a0), .val (.int (2 : Int32)), .val (.int (((0 : Int32) + (1 : Int32)) + (1 : Int32))), .val (.long u1), .second]) rfl ?_
    show Steps p.tables e below (s₁.setTop (mkF m 52 #[.val (.ref a0), .val (.long (((((((0 : Int64) + u0) * (-7046029254386353131 : Int64)) + u1) * (-7046029254386353131 : Int64)) ^^^ (XT.ushrL (((((0 : Int64) + u0) * (-7046029254386353131 : Int64)) + u1) * (-7046029254386353131 : Int64)) (33 : Int32))) * (-49064778989728563 : Int64))), .second, .val (.ref a0), .val (.int (2 : Int32)), .val (.int (((0 : Int32) + (1 : Int32)) + (1 : Int32))), .val (.long u1), .second] [])) _
    refine XT.lloadN X0.here hx rfl (hb hby d2_52) rfl ?_
    show Steps p.tables e below (s₁.setTop (mkF m 53 #[.val (.ref a0), .val (.long (((((((0 : Int64) + u0) * (-7046029254386353131 : Int64)) + u1) * (-7046029254386353131 : Int64)) ^^^ (XT.ushrL (((((0 : Int64) + u0) * (-7046029254386353131 : Int64)) + u1) * (-7046029254386353131 : Int64)) (33 : Int32))) * (-49064778989728563 : Int64))), .second, .val (.ref a0), .val (.int (2 : Int32)), .val (.int (((0 : Int32) + (1 : Int32)) + (1 : Int32))), .val (.long u1), .second] [(.long (((((((0 : Int64) + u0) * (-7046029254386353131 : Int64)) + u1) * (-7046029254386353131 : Int64)) ^^^ (XT.ushrL (((((0 : Int64) + u0) * (-7046029254386353131 : Int64)) + u1) * (-7046029254386353131 : Int64)) (33 : Int32))) * (-49064778989728563 : Int64)))])) _
    refine XT.lloadN X0.here hx rfl (hb hby d2_53) rfl ?_
    show Steps p.tables e below (s₁.setTop (mkF m 54 #[.val (.ref a0), .val (.long (((((((0 : Int64) + u0) * (-7046029254386353131 : Int64)) + u1) * (-7046029254386353131 : Int64)) ^^^ (XT.ushrL (((((0 : Int64) + u0) * (-7046029254386353131 : Int64)) + u1) * (-7046029254386353131 : Int64)) (33 : Int32))) * (-49064778989728563 : Int64))), .second, .val (.ref a0), .val (.int (2 : Int32)), .val (.int (((0 : Int32) + (1 : Int32)) + (1 : Int32))), .val (.long u1), .second] [(.long (((((((0 : Int64) + u0) * (-7046029254386353131 : Int64)) + u1) * (-7046029254386353131 : Int64)) ^^^ (XT.ushrL (((((0 : Int64) + u0) * (-7046029254386353131 : Int64)) + u1) * (-7046029254386353131 : Int64)) (33 : Int32))) * (-49064778989728563 : Int64))), (.long (((((((0 : Int64) + u0) * (-7046029254386353131 : Int64)) + u1) * (-7046029254386353131 : Int64)) ^^^ (XT.ushrL (((((0 : Int64) + u0) * (-7046029254386353131 : Int64)) + u1) * (-7046029254386353131 : Int64)) (33 : Int32))) * (-49064778989728563 : Int64)))])) _
    refine XT.bipushV X0.here hx rfl (33 : Int32) (hb hby d2_54) (by decide) ?_
    show Steps p.tables e below (s₁.setTop (mkF m 56 #[.val (.ref a0), .val (.long (((((((0 : Int64) + u0) * (-7046029254386353131 : Int64)) + u1) * (-7046029254386353131 : Int64)) ^^^ (XT.ushrL (((((0 : Int64) + u0) * (-7046029254386353131 : Int64)) + u1) * (-7046029254386353131 : Int64)) (33 : Int32))) * (-49064778989728563 : Int64))), .second, .val (.ref a0), .val (.int (2 : Int32)), .val (.int (((0 : Int32) + (1 : Int32)) + (1 : Int32))), .val (.long u1), .second] [(.int (33 : Int32)), (.long (((((((0 : Int64) + u0) * (-7046029254386353131 : Int64)) + u1) * (-7046029254386353131 : Int64)) ^^^ (XT.ushrL (((((0 : Int64) + u0) * (-7046029254386353131 : Int64)) + u1) * (-7046029254386353131 : Int64)) (33 : Int32))) * (-49064778989728563 : Int64))), (.long (((((((0 : Int64) + u0) * (-7046029254386353131 : Int64)) + u1) * (-7046029254386353131 : Int64)) ^^^ (XT.ushrL (((((0 : Int64) + u0) * (-7046029254386353131 : Int64)) + u1) * (-7046029254386353131 : Int64)) (33 : Int32))) * (-49064778989728563 : Int64)))])) _
    refine XT.lushr X0.here hx rfl (hb hby d2_56) rfl ?_
    show Steps p.tables e below (s₁.setTop (mkF m 57 #[.val (.ref a0), .val (.long (((((((0 : Int64) + u0) * (-7046029254386353131 : Int64)) + u1) * (-7046029254386353131 : Int64)) ^^^ (XT.ushrL (((((0 : Int64) + u0) * (-7046029254386353131 : Int64)) + u1) * (-7046029254386353131 : Int64)) (33 : Int32))) * (-49064778989728563 : Int64))), .second, .val (.ref a0), .val (.int (2 : Int32)), .val (.int (((0 : Int32) + (1 : Int32)) + (1 : Int32))), .val (.long u1), .second] [(.long (XT.ushrL (((((((0 : Int64) + u0) * (-7046029254386353131 : Int64)) + u1) * (-7046029254386353131 : Int64)) ^^^ (XT.ushrL (((((0 : Int64) + u0) * (-7046029254386353131 : Int64)) + u1) * (-7046029254386353131 : Int64)) (33 : Int32))) * (-49064778989728563 : Int64)) (33 : Int32))), (.long (((((((0 : Int64) + u0) * (-7046029254386353131 : Int64)) + u1) * (-7046029254386353131 : Int64)) ^^^ (XT.ushrL (((((0 : Int64) + u0) * (-7046029254386353131 : Int64)) + u1) * (-7046029254386353131 : Int64)) (33 : Int32))) * (-49064778989728563 : Int64)))])) _
    refine XT.lxor X0.here hx rfl (hb hby d2_57) rfl ?_
    show Steps p.tables e below (s₁.setTop (mkF m 58 #[.val (.ref a0), .val (.long (((((((0 : Int64) + u0) * (-7046029254386353131 : Int64)) + u1) * (-7046029254386353131 : Int64)) ^^^ (XT.ushrL (((((0 : Int64) + u0) * (-7046029254386353131 : Int64)) + u1) * (-7046029254386353131 : Int64)) (33 : Int32))) * (-49064778989728563 : Int64))), .second, .val (.ref a0), .val (.int (2 : Int32)), .val (.int (((0 : Int32) + (1 : Int32)) + (1 : Int32))), .val (.long u1), .second] [(.long ((((((((0 : Int64) + u0) * (-7046029254386353131 : Int64)) + u1) * (-7046029254386353131 : Int64)) ^^^ (XT.ushrL (((((0 : Int64) + u0) * (-7046029254386353131 : Int64)) + u1) * (-7046029254386353131 : Int64)) (33 : Int32))) * (-49064778989728563 : Int64)) ^^^ (XT.ushrL (((((((0 : Int64) + u0) * (-7046029254386353131 : Int64)) + u1) * (-7046029254386353131 : Int64)) ^^^ (XT.ushrL (((((0 : Int64) + u0) * (-7046029254386353131 : Int64)) + u1) * (-7046029254386353131 : Int64)) (33 : Int32))) * (-49064778989728563 : Int64)) (33 : Int32))))])) _
    refine XT.lstoreN X0.here hx rfl (hb hby d2_58) rfl (l' := #[.val (.ref a0), .val (.long ((((((((0 : Int64) + u0) * (-7046029254386353131 : Int64)) + u1) * (-7046029254386353131 : Int64)) ^^^ (XT.ushrL (((((0 : Int64) + u0) * (-7046029254386353131 : Int64)) + u1) * (-7046029254386353131 : Int64)) (33 : Int32))) * (-49064778989728563 : Int64)) ^^^ (XT.ushrL (((((((0 : Int64) + u0) * (-7046029254386353131 : Int64)) + u1) * (-7046029254386353131 : Int64)) ^^^ (XT.ushrL (((((0 : Int64) + u0) * (-7046029254386353131 : Int64)) + u1) * (-7046029254386353131 : Int64)) (33 : Int32))) * (-49064778989728563 : Int64)) (33 : Int32)))), .second, .val (.ref a0), .val (.int (2 : Int32)), .val (.int (((0 : Int32) + (1 : Int32)) + (1 : Int32))), .val (.long u1), .second]) rfl ?_
    show Steps p.tables e below (s₁.setTop (mkF m 59 #[.val (.ref a0), .val (.long ((((((((0 : Int64) + u0) * (-7046029254386353131 : Int64)) + u1) * (-7046029254386353131 : Int64)) ^^^ (XT.ushrL (((((0 : Int64) + u0) * (-7046029254386353131 : Int64)) + u1) * (-7046029254386353131 : Int64)) (33 : Int32))) * (-49064778989728563 : Int64)) ^^^ (XT.ushrL (((((((0 : Int64) + u0) * (-7046029254386353131 : Int64)) + u1) * (-7046029254386353131 : Int64)) ^^^ (XT.ushrL (((((0 : Int64) + u0) * (-7046029254386353131 : Int64)) + u1) * (-7046029254386353131 : Int64)) (33 : Int32))) * (-49064778989728563 : Int64)) (33 : Int32)))), .second, .val (.ref a0), .val (.int (2 : Int32)), .val (.int (((0 : Int32) + (1 : Int32)) + (1 : Int32))), .val (.long u1), .second] [])) _
    refine XT.lloadN X0.here hx rfl (hb hby d2_59) rfl ?_
    show Steps p.tables e below (s₁.setTop (mkF m 60 #[.val (.ref a0), .val (.long ((((((((0 : Int64) + u0) * (-7046029254386353131 : Int64)) + u1) * (-7046029254386353131 : Int64)) ^^^ (XT.ushrL (((((0 : Int64) + u0) * (-7046029254386353131 : Int64)) + u1) * (-7046029254386353131 : Int64)) (33 : Int32))) * (-49064778989728563 : Int64)) ^^^ (XT.ushrL (((((((0 : Int64) + u0) * (-7046029254386353131 : Int64)) + u1) * (-7046029254386353131 : Int64)) ^^^ (XT.ushrL (((((0 : Int64) + u0) * (-7046029254386353131 : Int64)) + u1) * (-7046029254386353131 : Int64)) (33 : Int32))) * (-49064778989728563 : Int64)) (33 : Int32)))), .second, .val (.ref a0), .val (.int (2 : Int32)), .val (.int (((0 : Int32) + (1 : Int32)) + (1 : Int32))), .val (.long u1), .second] [(.long ((((((((0 : Int64) + u0) * (-7046029254386353131 : Int64)) + u1) * (-7046029254386353131 : Int64)) ^^^ (XT.ushrL (((((0 : Int64) + u0) * (-7046029254386353131 : Int64)) + u1) * (-7046029254386353131 : Int64)) (33 : Int32))) * (-49064778989728563 : Int64)) ^^^ (XT.ushrL (((((((0 : Int64) + u0) * (-7046029254386353131 : Int64)) + u1) * (-7046029254386353131 : Int64)) ^^^ (XT.ushrL (((((0 : Int64) + u0) * (-7046029254386353131 : Int64)) + u1) * (-7046029254386353131 : Int64)) (33 : Int32))) * (-49064778989728563 : Int64)) (33 : Int32))))])) _
    exact k)
  obtain ⟨fs, hr, hrun, hended, hW, hsame⟩ := X0.leave (v := some (.long ((((((((0 : Int64) + u0) * (-7046029254386353131 : Int64)) + u1) * (-7046029254386353131 : Int64)) ^^^ (XT.ushrL (((((0 : Int64) + u0) * (-7046029254386353131 : Int64)) + u1) * (-7046029254386353131 : Int64)) (33 : Int32))) * (-49064778989728563 : Int64)) ^^^ (XT.ushrL (((((((0 : Int64) + u0) * (-7046029254386353131 : Int64)) + u1) * (-7046029254386353131 : Int64)) ^^^ (XT.ushrL (((((0 : Int64) + u0) * (-7046029254386353131 : Int64)) + u1) * (-7046029254386353131 : Int64)) (33 : Int32))) * (-49064778989728563 : Int64)) (33 : Int32))))) (fun h => by rw [Bd.returns] at h; cases h)
  refine ⟨_, _, pre0 _ (S4 _ ?_), hrun, hended, _, _, rfl, ?_, ⟨_, rfl⟩, hW, hsame.mono (by decide) (by decide)⟩
  · exact X0.lreturnOut hx Bd.returns (hb hby d2_60) hr
  · show QrmHash2 Z a0 kk u0 u1 h0 n0 _ s₁.heap _
    rw [e0]
    exact ⟨rfl, N0, rfl⟩
def QrmHash3 (Z : State) (a0 : Addr) (kk : ClassId) (u0 : Int64) (u1 : Int64) (u2 : Int64) (h0 : Heap) (n0 : Nat) (v : Option Value) (h : Heap) (L : List Loc) : Prop := v = some (.long (own_fin (own_st (own_st (own_st (0) u0) u1) u2))) ∧ Fr n0 L ∧ h = h0
set_option maxRecDepth 65536 in
set_option maxHeartbeats 40000000 in
theorem rmHash3 (l : Launch) (Z : State) (av0 : Array Value) (hw : ∀ d ∈ tables_1, d.before av0 Z = true) (ws : List Jvm.Cond) (a0 : Addr) (kk : ClassId) (u0 : Int64) (u1 : Int64) (u2 : Int64) (h0 : Heap) (n0 : Nat) (Z0 : n0 ≤ h0.size) (Ha : Arv Z h0 a0 kk .long (3 : Int32) [(.long u0), (.long u1), (.long u2)] (.long (0 : Int64))) :
    MetFree l (⟨"com/example/bare_refinement/barerefinement/exploration/StateSpace", "hash", "([J)J"⟩ : MethodName) (head1 (Jvm.Cond.code (⟨"com/example/bare_refinement/barerefinement/exploration/StateSpace", "hash", "([J)J"⟩ : MethodName) prog_59_method_9_code 8 (some .long) :: ws) ({ frames := 0, cells := 0, slots := 0, locals := 0 } : Room)) (fun aU U => aU = #[(.ref a0)] ∧ Z.Warmed39 U.vm ∧ U.heap = h0) (fun _ _ _ _ _ => True) (fun _ U oU U' => ∃ vU LU, oU = .returned vU ∧ QrmHash3 Z a0 kk u0 u1 u2 h0 n0 vU U'.heap LU ∧ FrameEnd U oU U' LU ({ frames := 0, cells := 0, slots := 0, locals := 0 } : Room).cells ({ frames := 0, cells := 0, slots := 0, locals := 0 } : Room).slots) := by
  refine MetFree.of_bodySF (plainFor_of_name pn_StateSpace) hisR ?_
  intro p e s m args below meth c s₁ Bd hml0 hP hK
  obtain ⟨rfl, hZ, hh⟩ := hP
  have hx := Bd.exec
  have hby := Bd.bytes
  have hml : c.maxLocals = 8 := hml0
  have hown : s.vm.findClass "com/example/bare_refinement/barerefinement/exploration/StateSpace" = some m.cls := findClass_of_methodNamed Bd.named
  have hnm := (name_of_methodNamed Bd.named Bd.method).1
  have X0 : Stand p l e ({ frames := 0, cells := 0, slots := 0, locals := 0 } : Room) s m #[(.ref a0)] below meth c s₁ [] 0 0 := Stand.of_body Bd
  have e0 : s₁.heap = h0 := by rw [← hh, Bd.state]; rfl
  have N0 := Fr.nil n0
  have pre0 : ∀ t, Steps p.tables e below (s₁.setTop (mkF m 0 #[.val (.ref a0), .unset, .unset, .unset, .unset, .unset, .unset, .unset] [])) t → Steps p.tables e below (s₁.setTop (entryFrame m #[(.ref a0)] 8)) t := fun t k => castTop (by first | (simp [entryFrame, mkF, argsToLocals, Value.category]; done) | rfl) k
  obtain ⟨cl1, Ar1, qk1, Sz1, Ng1, Hs1, Gs1⟩ := id Ha
  obtain ⟨cl2, Ar2, qk2, Sz2, Ng2, Hs2, Gs2⟩ := id Ha
  have hin2 : ¬ ((0 : Int32) < 0 ∨ cl2.slots.size ≤ ((0 : Int32)).toNatClampNeg) := inb_of Sz2 ⟨by decide, by decide⟩
  have hat2 : cl2.slots[((0 : Int32)).toNatClampNeg]? = some (.long u0) := Hs2.at hin2 rfl
  obtain ⟨cl3, Ar3, qk3, Sz3, Ng3, Hs3, Gs3⟩ := id Ha
  have hin3 : ¬ (((0 : Int32) + (1 : Int32)) < 0 ∨ cl3.slots.size ≤ (((0 : Int32) + (1 : Int32))).toNatClampNeg) := inb_of Sz3 ⟨by decide, by decide⟩
  have hat3 : cl3.slots[(((0 : Int32) + (1 : Int32))).toNatClampNeg]? = some (.long u1) := Hs3.at hin3 rfl
  obtain ⟨cl4, Ar4, qk4, Sz4, Ng4, Hs4, Gs4⟩ := id Ha
  have hin4 : ¬ ((((0 : Int32) + (1 : Int32)) + (1 : Int32)) < 0 ∨ cl4.slots.size ≤ ((((0 : Int32) + (1 : Int32)) + (1 : Int32))).toNatClampNeg) := inb_of Sz4 ⟨by decide, by decide⟩
  have hat4 : cl4.slots[((((0 : Int32) + (1 : Int32)) + (1 : Int32))).toNatClampNeg]? = some (.long u2) := Hs4.at hin4 rfl
  have S5 : ∀ t, Steps p.tables e below (s₁.setTop (mkF m 60 #[.val (.ref a0), .val (.long ((((((((((0 : Int64) + u0) * (-7046029254386353131 : Int64)) + u1) * (-7046029254386353131 : Int64)) + u2) * (-7046029254386353131 : Int64)) ^^^ (XT.ushrL (((((((0 : Int64) + u0) * (-7046029254386353131 : Int64)) + u1) * (-7046029254386353131 : Int64)) + u2) * (-7046029254386353131 : Int64)) (33 : Int32))) * (-49064778989728563 : Int64)) ^^^ (XT.ushrL (((((((((0 : Int64) + u0) * (-7046029254386353131 : Int64)) + u1) * (-7046029254386353131 : Int64)) + u2) * (-7046029254386353131 : Int64)) ^^^ (XT.ushrL (((((((0 : Int64) + u0) * (-7046029254386353131 : Int64)) + u1) * (-7046029254386353131 : Int64)) + u2) * (-7046029254386353131 : Int64)) (33 : Int32))) * (-49064778989728563 : Int64)) (33 : Int32)))), .second, .val (.ref a0), .val (.int (3 : Int32)), .val (.int ((((0 : Int32) + (1 : Int32)) + (1 : Int32)) + (1 : Int32))), .val (.long u2), .second] [(.long ((((((((((0 : Int64) + u0) * (-7046029254386353131 : Int64)) + u1) * (-7046029254386353131 : Int64)) + u2) * (-7046029254386353131 : Int64)) ^^^ (XT.ushrL (((((((0 : Int64) + u0) * (-7046029254386353131 : Int64)) + u1) * (-7046029254386353131 : Int64)) + u2) * (-7046029254386353131 : Int64)) (33 : Int32))) * (-49064778989728563 : Int64)) ^^^ (XT.ushrL (((((((((0 : Int64) + u0) * (-7046029254386353131 : Int64)) + u1) * (-7046029254386353131 : Int64)) + u2) * (-7046029254386353131 : Int64)) ^^^ (XT.ushrL (((((((0 : Int64) + u0) * (-7046029254386353131 : Int64)) + u1) * (-7046029254386353131 : Int64)) + u2) * (-7046029254386353131 : Int64)) (33 : Int32))) * (-49064778989728563 : Int64)) (33 : Int32))))])) t → Steps p.tables e below (s₁.setTop (mkF m 0 #[.val (.ref a0), .unset, .unset, .unset, .unset, .unset, .unset, .unset] [])) t := fun t k => id (by
    show Steps p.tables e below (s₁.setTop (mkF m 0 #[.val (.ref a0), .unset, .unset, .unset, .unset, .unset, .unset, .unset] [])) _
    refine XT.lconstV X0.here hx rfl (0 : Int64) (hb hby d2_0) (by decide) ?_
    show Steps p.tables e below (s₁.setTop (mkF m 1 #[.val (.ref a0), .unset, .unset, .unset, .unset, .unset, .unset, .unset] [(.long (0 : Int64))])) _
    refine XT.lstoreN X0.here hx rfl (hb hby d2_1) rfl (l' := #[.val (.ref a0), .val (.long (0 : Int64)), .second, .unset, .unset, .unset, .unset, .unset]) rfl ?_
    show Steps p.tables e below (s₁.setTop (mkF m 2 #[.val (.ref a0), .val (.long (0 : Int64)), .second, .unset, .unset, .unset, .unset, .unset] [])) _
    refine XS.aloadN X0.here hx rfl (hb hby d2_2) rfl rfl ?_
    show Steps p.tables e below (s₁.setTop (mkF m 3 #[.val (.ref a0), .val (.long (0 : Int64)), .second, .unset, .unset, .unset, .unset, .unset] [(.ref a0)])) _
    refine XS.astoreN X0.here hx rfl (hb hby d2_3) rfl rfl (l' := #[.val (.ref a0), .val (.long (0 : Int64)), .second, .val (.ref a0), .unset, .unset, .unset, .unset]) rfl ?_
    show Steps p.tables e below (s₁.setTop (mkF m 4 #[.val (.ref a0), .val (.long (0 : Int64)), .second, .val (.ref a0), .unset, .unset, .unset, .unset] [])) _
    refine XS.aloadN X0.here hx rfl (hb hby d2_4) rfl rfl ?_
    show Steps p.tables e below (s₁.setTop (mkF m 5 #[.val (.ref a0), .val (.long (0 : Int64)), .second, .val (.ref a0), .unset, .unset, .unset, .unset] [(.ref a0)])) _
    refine X0.arraylength hx (by rw [e0]; exact Ar1.1) (State.isArrayOf_alike hZ.alike Ar1.2.1) (g := (mkF m 5 #[.val (.ref a0), .val (.long (0 : Int64)), .second, .val (.ref a0), .unset, .unset, .unset, .unset] [(.ref a0)])) rfl rfl (hb hby d2_5) _ ?_
    rw [len_of Sz1 Ng1]
    show Steps p.tables e below (s₁.setTop (mkF m 6 #[.val (.ref a0), .val (.long (0 : Int64)), .second, .val (.ref a0), .unset, .unset, .unset, .unset] [(.int (3 : Int32))])) _
    refine XS.istore X0.here hx rfl (hb hby d2_6) rfl (l' := #[.val (.ref a0), .val (.long (0 : Int64)), .second, .val (.ref a0), .val (.int (3 : Int32)), .unset, .unset, .unset]) rfl ?_
    show Steps p.tables e below (s₁.setTop (mkF m 8 #[.val (.ref a0), .val (.long (0 : Int64)), .second, .val (.ref a0), .val (.int (3 : Int32)), .unset, .unset, .unset] [])) _
    refine XT.iconstV X0.here hx rfl (0 : Int32) (hb hby d2_8) (by decide) ?_
    show Steps p.tables e below (s₁.setTop (mkF m 9 #[.val (.ref a0), .val (.long (0 : Int64)), .second, .val (.ref a0), .val (.int (3 : Int32)), .unset, .unset, .unset] [(.int (0 : Int32))])) _
    refine XS.istore X0.here hx rfl (hb hby d2_9) rfl (l' := #[.val (.ref a0), .val (.long (0 : Int64)), .second, .val (.ref a0), .val (.int (3 : Int32)), .val (.int (0 : Int32)), .unset, .unset]) rfl ?_
    show Steps p.tables e below (s₁.setTop (mkF m 11 #[.val (.ref a0), .val (.long (0 : Int64)), .second, .val (.ref a0), .val (.int (3 : Int32)), .val (.int (0 : Int32)), .unset, .unset] [])) _
    refine XS.iload X0.here hx rfl (hb hby d2_11) rfl ?_
    show Steps p.tables e below (s₁.setTop (mkF m 13 #[.val (.ref a0), .val (.long (0 : Int64)), .second, .val (.ref a0), .val (.int (3 : Int32)), .val (.int (0 : Int32)), .unset, .unset] [(.int (0 : Int32))])) _
    refine XS.iload X0.here hx rfl (hb hby d2_13) rfl ?_
    show Steps p.tables e below (s₁.setTop (mkF m 15 #[.val (.ref a0), .val (.long (0 : Int64)), .second, .val (.ref a0), .val (.int (3 : Int32)), .val (.int (0 : Int32)), .unset, .unset] [(.int (3 : Int32)), (.int (0 : Int32))])) _
    refine XS.icmpNo X0.here hx rfl (hb hby d2_15) rfl (XT.ii_ge_f (by decide)) ?_
    show Steps p.tables e below (s₁.setTop (mkF m 18 #[.val (.ref a0), .val (.long (0 : Int64)), .second, .val (.ref a0), .val (.int (3 : Int32)), .val (.int (0 : Int32)), .unset, .unset] [])) _
    refine XS.aloadN X0.here hx rfl (hb hby d2_18) rfl rfl ?_
    show Steps p.tables e below (s₁.setTop (mkF m 19 #[.val (.ref a0), .val (.long (0 : Int64)), .second, .val (.ref a0), .val (.int (3 : Int32)), .val (.int (0 : Int32)), .unset, .unset] [(.ref a0)])) _
    refine XS.iload X0.here hx rfl (hb hby d2_19) rfl ?_
    show Steps p.tables e below (s₁.setTop (mkF m 21 #[.val (.ref a0), .val (.long (0 : Int64)), .second, .val (.ref a0), .val (.int (3 : Int32)), .val (.int (0 : Int32)), .unset, .unset] [(.int (0 : Int32)), (.ref a0)])) _
    refine X0.laload hx (j := (0 : Int32)) (v := (.long u0)) (by rw [e0]; exact Ar2.1) (State.isArrayOf_alike hZ.alike Ar2.2.1) Ar2.2.2 hin2 hat2 (g := (mkF m 21 #[.val (.ref a0), .val (.long (0 : Int64)), .second, .val (.ref a0), .val (.int (3 : Int32)), .val (.int (0 : Int32)), .unset, .unset] [(.int (0 : Int32)), (.ref a0)])) rfl rfl (hb hby d2_21) _ ?_
    show Steps p.tables e below (s₁.setTop (mkF m 22 #[.val (.ref a0), .val (.long (0 : Int64)), .second, .val (.ref a0), .val (.int (3 : Int32)), .val (.int (0 : Int32)), .unset, .unset] [(.long u0)])) _
    refine XT.lstore X0.here hx rfl (hb hby d2_22) rfl (l' := #[.val (.ref a0), .val (.long (0 : Int64)), .second, .val (.ref a0), .val (.int (3 : Int32)), .val (.int (0 : Int32)), .val (.long u0), .second]) rfl ?_
    show Steps p.tables e below (s₁.setTop (mkF m 24 #[.val (.ref a0), .val (.long (0 : Int64)), .second, .val (.ref a0), .val (.int (3 : Int32)), .val (.int (0 : Int32)), .val (.long u0), .second] [])) _
    refine XT.lloadN X0.here hx rfl (hb hby d2_24) rfl ?_
    show Steps p.tables e below (s₁.setTop (mkF m 25 #[.val (.ref a0), .val (.long (0 : Int64)), .second, .val (.ref a0), .val (.int (3 : Int32)), .val (.int (0 : Int32)), .val (.long u0), .second] [(.long (0 : Int64))])) _
    refine XT.lload X0.here hx rfl (hb hby d2_25) rfl ?_
    show Steps p.tables e below (s₁.setTop (mkF m 27 #[.val (.ref a0), .val (.long (0 : Int64)), .second, .val (.ref a0), .val (.int (3 : Int32)), .val (.int (0 : Int32)), .val (.long u0), .second] [(.long u0), (.long (0 : Int64))])) _
    refine XT.ladd X0.here hx rfl (hb hby d2_27) rfl ?_
    show Steps p.tables e below (s₁.setTop (mkF m 28 #[.val (.ref a0), .val (.long (0 : Int64)), .second, .val (.ref a0), .val (.int (3 : Int32)), .val (.int (0 : Int32)), .val (.long u0), .second] [(.long ((0 : Int64) + u0))])) _
    refine X0.ldc2J hx hown (mvT hZ (hw _ (List.mem_of_getElem? (i := 9) rfl))) rfl (hb hby d2_28) ?_
    show Steps p.tables e below (s₁.setTop (mkF m 31 #[.val (.ref a0), .val (.long (0 : Int64)), .second, .val (.ref a0), .val (.int (3 : Int32)), .val (.int (0 : Int32)), .val (.long u0), .second] [(.long (-7046029254386353131 : Int64)), (.long ((0 : Int64) + u0))])) _
    refine XT.lmul X0.here hx rfl (hb hby d2_31) rfl ?_
    show Steps p.tables e below (s₁.setTop (mkF m 32 #[.val (.ref a0), .val (.long (0 : Int64)), .second, .val (.ref a0), .val (.int (3 : Int32)), .val (.int (0 : Int32)), .val (.long u0), .second] [(.long (((0 : Int64) + u0) * (-7046029254386353131 : Int64)))])) _
    refine XT.lstoreN X0.here hx rfl (hb hby d2_32) rfl (l' := #[.val (.ref a0), .val (.long (((0 : Int64) + u0) * (-7046029254386353131 : Int64))), .second, .val (.ref a0), .val (.int (3 : Int32)), .val (.int (0 : Int32)), .val (.long u0), .second]) rfl ?_
    show Steps p.tables e below (s₁.setTop (mkF m 33 #[.val (.ref a0), .val (.long (((0 : Int64) + u0) * (-7046029254386353131 : Int64))), .second, .val (.ref a0), .val (.int (3 : Int32)), .val (.int (0 : Int32)), .val (.long u0), .second] [])) _
    refine XT.iincV X0.here hx rfl (1 : Int32) (hb hby d2_33) (by decide) rfl (l' := #[.val (.ref a0), .val (.long (((0 : Int64) + u0) * (-7046029254386353131 : Int64))), .second, .val (.ref a0), .val (.int (3 : Int32)), .val (.int ((0 : Int32) + (1 : Int32))), .val (.long u0), .second]) rfl ?_
    show Steps p.tables e below (s₁.setTop (mkF m 36 #[.val (.ref a0), .val (.long (((0 : Int64) + u0) * (-7046029254386353131 : Int64))), .second, .val (.ref a0), .val (.int (3 : Int32)), .val (.int ((0 : Int32) + (1 : Int32))), .val (.long u0), .second] [])) _
    refine XS.goto X0.here hx rfl (pc0 := 36) (pc' := 11) rfl (hb hby d2_36) (by decide) (by decide) ?_
    show Steps p.tables e below (s₁.setTop (mkF m 11 #[.val (.ref a0), .val (.long (((0 : Int64) + u0) * (-7046029254386353131 : Int64))), .second, .val (.ref a0), .val (.int (3 : Int32)), .val (.int ((0 : Int32) + (1 : Int32))), .val (.long u0), .second] [])) _
    refine XS.iload X0.here hx rfl (hb hby d2_11) rfl ?_
    show Steps p.tables e below (s₁.setTop (mkF m 13 #[.val (.ref a0), .val (.long (((0 : Int64) + u0) * (-7046029254386353131 : Int64))), .second, .val (.ref a0), .val (.int (3 : Int32)), .val (.int ((0 : Int32) + (1 : Int32))), .val (.long u0), .second] [(.int ((0 : Int32) + (1 : Int32)))])) _
    refine XS.iload X0.here hx rfl (hb hby d2_13) rfl ?_
    show Steps p.tables e below (s₁.setTop (mkF m 15 #[.val (.ref a0), .val (.long (((0 : Int64) + u0) * (-7046029254386353131 : Int64))), .second, .val (.ref a0), .val (.int (3 : Int32)), .val (.int ((0 : Int32) + (1 : Int32))), .val (.long u0), .second] [(.int (3 : Int32)), (.int ((0 : Int32) + (1 : Int32)))])) _
    refine XS.icmpNo X0.here hx rfl (hb hby d2_15) rfl (XT.ii_ge_f (by decide)) ?_
    show Steps p.tables e below (s₁.setTop (mkF m 18 #[.val (.ref a0), .val (.long (((0 : Int64) + u0) * (-7046029254386353131 : Int64))), .second, .val (.ref a0), .val (.int (3 : Int32)), .val (.int ((0 : Int32) + (1 : Int32))), .val (.long u0), .second] [])) _
    refine XS.aloadN X0.here hx rfl (hb hby d2_18) rfl rfl ?_
    show Steps p.tables e below (s₁.setTop (mkF m 19 #[.val (.ref a0), .val (.long (((0 : Int64) + u0) * (-7046029254386353131 : Int64))), .second, .val (.ref a0), .val (.int (3 : Int32)), .val (.int ((0 : Int32) + (1 : Int32))), .val (.long u0), .second] [(.ref a0)])) _
    refine XS.iload X0.here hx rfl (hb hby d2_19) rfl ?_
    show Steps p.tables e below (s₁.setTop (mkF m 21 #[.val (.ref a0), .val (.long (((0 : Int64) + u0) * (-7046029254386353131 : Int64))), .second, .val (.ref a0), .val (.int (3 : Int32)), .val (.int ((0 : Int32) + (1 : Int32))), .val (.long u0), .second] [(.int ((0 : Int32) + (1 : Int32))), (.ref a0)])) _
    refine X0.laload hx (j := ((0 : Int32) + (1 : Int32))) (v := (.long u1)) (by rw [e0]; exact Ar3.1) (State.isArrayOf_alike hZ.alike Ar3.2.1) Ar3.2.2 hin3 hat3 (g := (mkF m 21 #[.val (.ref a0), .val (.long (((0 : Int64) + u0) * (-7046029254386353131 : Int64))), .second, .val (.ref a0), .val (.int (3 : Int32)), .val (.int ((0 : Int32) + (1 : Int32))), .val (.long u0), .second] [(.int ((0 : Int32) + (1 : Int32))), (.ref a0)])) rfl rfl (hb hby d2_21) _ ?_
    show Steps p.tables e below (s₁.setTop (mkF m 22 #[.val (.ref a0), .val (.long (((0 : Int64) + u0) * (-7046029254386353131 : Int64))), .second, .val (.ref a0), .val (.int (3 : Int32)), .val (.int ((0 : Int32) + (1 : Int32))), .val (.long u0), .second] [(.long u1)])) _
    refine XT.lstore X0.here hx rfl (hb hby d2_22) rfl (l' := #[.val (.ref a0), .val (.long (((0 : Int64) + u0) * (-7046029254386353131 : Int64))), .second, .val (.ref a0), .val (.int (3 : Int32)), .val (.int ((0 : Int32) + (1 : Int32))), .val (.long u1), .second]) rfl ?_
    show Steps p.tables e below (s₁.setTop (mkF m 24 #[.val (.ref a0), .val (.long (((0 : Int64) + u0) * (-7046029254386353131 : Int64))), .second, .val (.ref a0), .val (.int (3 : Int32)), .val (.int ((0 : Int32) + (1 : Int32))), .val (.long u1), .second] [])) _
    refine XT.lloadN X0.here hx rfl (hb hby d2_24) rfl ?_
    show Steps p.tables e below (s₁.setTop (mkF m 25 #[.val (.ref a0), .val (.long (((0 : Int64) + u0) * (-7046029254386353131 : Int64))), .second, .val (.ref a0), .val (.int (3 : Int32)), .val (.int ((0 : Int32) + (1 : Int32))), .val (.long u1), .second] [(.long (((0 : Int64) + u0) * (-7046029254386353131 : Int64)))])) _
    refine XT.lload X0.here hx rfl (hb hby d2_25) rfl ?_
    show Steps p.tables e below (s₁.setTop (mkF m 27 #[.val (.ref a0), .val (.long (((0 : Int64) + u0) * (-7046029254386353131 : Int64))), .second, .val (.ref a0), .val (.int (3 : Int32)), .val (.int ((0 : Int32) + (1 : Int32))), .val (.long u1), .second] [(.long u1), (.long (((0 : Int64) + u0) * (-7046029254386353131 : Int64)))])) _
    refine XT.ladd X0.here hx rfl (hb hby d2_27) rfl ?_
    show Steps p.tables e below (s₁.setTop (mkF m 28 #[.val (.ref a0), .val (.long (((0 : Int64) + u0) * (-7046029254386353131 : Int64))), .second, .val (.ref a0), .val (.int (3 : Int32)), .val (.int ((0 : Int32) + (1 : Int32))), .val (.long u1), .second] [(.long ((((0 : Int64) + u0) * (-7046029254386353131 : Int64)) + u1))])) _
    refine X0.ldc2J hx hown (mvT hZ (hw _ (List.mem_of_getElem? (i := 9) rfl))) rfl (hb hby d2_28) ?_
    show Steps p.tables e below (s₁.setTop (mkF m 31 #[.val (.ref a0), .val (.long (((0 : Int64) + u0) * (-7046029254386353131 : Int64))), .second, .val (.ref a0), .val (.int (3 : Int32)), .val (.int ((0 : Int32) + (1 : Int32))), .val (.long u1), .second] [(.long (-7046029254386353131 : Int64)), (.long ((((0 : Int64) + u0) * (-7046029254386353131 : Int64)) + u1))])) _
    refine XT.lmul X0.here hx rfl (hb hby d2_31) rfl ?_
    show Steps p.tables e below (s₁.setTop (mkF m 32 #[.val (.ref a0), .val (.long (((0 : Int64) + u0) * (-7046029254386353131 : Int64))), .second, .val (.ref a0), .val (.int (3 : Int32)), .val (.int ((0 : Int32) + (1 : Int32))), .val (.long u1), .second] [(.long (((((0 : Int64) + u0) * (-7046029254386353131 : Int64)) + u1) * (-7046029254386353131 : Int64)))])) _
    refine XT.lstoreN X0.here hx rfl (hb hby d2_32) rfl (l' := #[.val (.ref a0), .val (.long (((((0 : Int64) + u0) * (-7046029254386353131 : Int64)) + u1) * (-7046029254386353131 : Int64))), .second, .val (.ref a0), .val (.int (3 : Int32)), .val (.int ((0 : Int32) + (1 : Int32))), .val (.long u1), .second]) rfl ?_
    show Steps p.tables e below (s₁.setTop (mkF m 33 #[.val (.ref a0), .val (.long (((((0 : Int64) + u0) * (-7046029254386353131 : Int64)) + u1) * (-7046029254386353131 : Int64))), .second, .val (.ref a0), .val (.int (3 : Int32)), .val (.int ((0 : Int32) + (1 : Int32))), .val (.long u1), .second] [])) _
    refine XT.iincV X0.here hx rfl (1 : Int32) (hb hby d2_33) (by decide) rfl (l' := #[.val (.ref a0), .val (.long (((((0 : Int64) + u0) * (-7046029254386353131 : Int64)) + u1) * (-7046029254386353131 : Int64))), .second, .val (.ref a0), .val (.int (3 : Int32)), .val (.int (((0 : Int32) + (1 : Int32)) + (1 : Int32))), .val (.long u1), .second]) rfl ?_
    show Steps p.tables e below (s₁.setTop (mkF m 36 #[.val (.ref a0), .val (.long (((((0 : Int64) + u0) * (-7046029254386353131 : Int64)) + u1) * (-7046029254386353131 : Int64))), .second, .val (.ref a0), .val (.int (3 : Int32)), .val (.int (((0 : Int32) + (1 : Int32)) + (1 : Int32))), .val (.long u1), .second] [])) _
    refine XS.goto X0.here hx rfl (pc0 := 36) (pc' := 11) rfl (hb hby d2_36) (by decide) (by decide) ?_
    show Steps p.tables e below (s₁.setTop (mkF m 11 #[.val (.ref a0), .val (.long (((((0 : Int64) + u0) * (-7046029254386353131 : Int64)) + u1) * (-7046029254386353131 : Int64))), .second, .val (.ref a0), .val (.int (3 : Int32)), .val (.int (((0 : Int32) + (1 : Int32)) + (1 : Int32))), .val (.long u1), .second] [])) _
    refine XS.iload X0.here hx rfl (hb hby d2_11) rfl ?_
    show Steps p.tables e below (s₁.setTop (mkF m 13 #[.val (.ref a0), .val (.long (((((0 : Int64) + u0) * (-7046029254386353131 : Int64)) + u1) * (-7046029254386353131 : Int64))), .second, .val (.ref a0), .val (.int (3 : Int32)), .val (.int (((0 : Int32) + (1 : Int32)) + (1 : Int32))), .val (.long u1), .second] [(.int (((0 : Int32) + (1 : Int32)) + (1 : Int32)))])) _
    refine XS.iload X0.here hx rfl (hb hby d2_13) rfl ?_
    show Steps p.tables e below (s₁.setTop (mkF m 15 #[.val (.ref a0), .val (.long (((((0 : Int64) + u0) * (-7046029254386353131 : Int64)) + u1) * (-7046029254386353131 : Int64))), .second, .val (.ref a0), .val (.int (3 : Int32)), .val (.int (((0 : Int32) + (1 : Int32)) + (1 : Int32))), .val (.long u1), .second] [(.int (3 : Int32)), (.int (((0 : Int32) + (1 : Int32)) + (1 : Int32)))])) _
    refine XS.icmpNo X0.here hx rfl (hb hby d2_15) rfl (XT.ii_ge_f (by decide)) ?_
    show Steps p.tables e below (s₁.setTop (mkF m 18 #[.val (.ref a0), .val (.long (((((0 : Int64) + u0) * (-7046029254386353131 : Int64)) + u1) * (-7046029254386353131 : Int64))), .second, .val (.ref a0), .val (.int (3 : Int32)), .val (.int (((0 : Int32) + (1 : Int32)) + (1 : Int32))), .val (.long u1), .second] [])) _
    refine XS.aloadN X0.here hx rfl (hb hby d2_18) rfl rfl ?_
    show Steps p.tables e below (s₁.setTop (mkF m 19 #[.val (.ref a0), .val (.long (((((0 : Int64) + u0) * (-7046029254386353131 : Int64)) + u1) * (-7046029254386353131 : Int64))), .second, .val (.ref a0), .val (.int (3 : Int32)), .val (.int (((0 : Int32) + (1 : Int32)) + (1 : Int32))), .val (.long u1), .second] [(.ref a0)])) _
    refine XS.iload X0.here hx rfl (hb hby d2_19) rfl ?_
    show Steps p.tables e below (s₁.setTop (mkF m 21 #[.val (.ref a0), .val (.long (((((0 : Int64) + u0) * (-7046029254386353131 : Int64)) + u1) * (-7046029254386353131 : Int64))), .second, .val (.ref a0), .val (.int (3 : Int32)), .val (.int (((0 : Int32) + (1 : Int32)) + (1 : Int32))), .val (.long u1), .second] [(.int (((0 : Int32) + (1 : Int32)) + (1 : Int32))), (.ref a0)])) _
    refine X0.laload hx (j := (((0 : Int32) + (1 : Int32)) + (1 : Int32))) (v := (.long u2)) (by rw [e0]; exact Ar4.1) (State.isArrayOf_alike hZ.alike Ar4.2.1) Ar4.2.2 hin4 hat4 (g := (mkF m 21 #[.val (.ref a0), .val (.long (((((0 : Int64) + u0) * (-7046029254386353131 : Int64)) + u1) * (-7046029254386353131 : Int64))), .second, .val (.ref a0), .val (.int (3 : Int32)), .val (.int (((0 : Int32) + (1 : Int32)) + (1 : Int32))), .val (.long u1), .second] [(.int (((0 : Int32) + (1 : Int32)) + (1 : Int32))), (.ref a0)])) rfl rfl (hb hby d2_21) _ ?_
    show Steps p.tables e below (s₁.setTop (mkF m 22 #[.val (.ref a0), .val (.long (((((0 : Int64) + u0) * (-7046029254386353131 : Int64)) + u1) * (-7046029254386353131 : Int64))), .second, .val (.ref a0), .val (.int (3 : Int32)), .val (.int (((0 : Int32) + (1 : Int32)) + (1 : Int32))), .val (.long u1), .second] [(.long u2)])) _
    refine XT.lstore X0.here hx rfl (hb hby d2_22) rfl (l' := #[.val (.ref a0), .val (.long (((((0 : Int64) + u0) * (-7046029254386353131 : Int64)) + u1) * (-7046029254386353131 : Int64))), .second, .val (.ref a0), .val (.int (3 : Int32)), .val (.int (((0 : Int32) + (1 : Int32)) + (1 : Int32))), .val (.long u2), .second]) rfl ?_
    show Steps p.tables e below (s₁.setTop (mkF m 24 #[.val (.ref a0), .val (.long (((((0 : Int64) + u0) * (-7046029254386353131 : Int64)) + u1) * (-7046029254386353131 : Int64))), .second, .val (.ref a0), .val (.int (3 : Int32)), .val (.int (((0 : Int32) + (1 : Int32)) + (1 : Int32))), .val (.long u2), .second] [])) _
    refine XT.lloadN X0.here hx rfl (hb hby d2_24) rfl ?_
    show Steps p.tables e below (s₁.setTop (mkF m 25 #[.val (.ref a0), .val (.long (((((0 : Int64) + u0) * (-7046029254386353131 : Int64)) + u1) * (-7046029254386353131 : Int64))), .second, .val (.ref a0), .val (.int (3 : Int32)), .val (.int (((0 : Int32) + (1 : Int32)) + (1 : Int32))), .val (.long u2), .second] [(.long (((((0 : Int64) + u0) * (-7046029254386353131 : Int64)) + u1) * (-7046029254386353131 : Int64)))])) _
    refine XT.lload X0.here hx rfl (hb hby d2_25) rfl ?_
    show Steps p.tables e below (s₁.setTop (mkF m 27 #[.val (.ref a0), .val (.long (((((0 : Int64) + u0) * (-7046029254386353131 : Int64)) + u1) * (-7046029254386353131 : Int64))), .second, .val (.ref a0), .val (.int (3 : Int32)), .val (.int (((0 : Int32) + (1 : Int32)) + (1 : Int32))), .val (.long u2), .second] [(.long u2), (.long (((((0 : Int64) + u0) * (-7046029254386353131 : Int64)) + u1) * (-7046029254386353131 : Int64)))])) _
    refine XT.ladd X0.here hx rfl (hb hby d2_27) rfl ?_
    show Steps p.tables e below (s₁.setTop (mkF m 28 #[.val (.ref a0), .val (.long (((((0 : Int64) + u0) * (-7046029254386353131 : Int64)) + u1) * (-7046029254386353131 : Int64))), .second, .val (.ref a0), .val (.int (3 : Int32)), .val (.int (((0 : Int32) + (1 : Int32)) + (1 : Int32))), .val (.long u2), .second] [(.long ((((((0 : Int64) + u0) * (-7046029254386353131 : Int64)) + u1) * (-7046029254386353131 : Int64)) + u2))])) _
    refine X0.ldc2J hx hown (mvT hZ (hw _ (List.mem_of_getElem? (i := 9) rfl))) rfl (hb hby d2_28) ?_
    show Steps p.tables e below (s₁.setTop (mkF m 31 #[.val (.ref a0), .val (.long (((((0 : Int64) + u0) * (-7046029254386353131 : Int64)) + u1) * (-7046029254386353131 : Int64))), .second, .val (.ref a0), .val (.int (3 : Int32)), .val (.int (((0 : Int32) + (1 : Int32)) + (1 : Int32))), .val (.long u2), .second] [(.long (-7046029254386353131 : Int64)), (.long ((((((0 : Int64) + u0) * (-7046029254386353131 : Int64)) + u1) * (-7046029254386353131 : Int64)) + u2))])) _
    refine XT.lmul X0.here hx rfl (hb hby d2_31) rfl ?_
    show Steps p.tables e below (s₁.setTop (mkF m 32 #[.val (.ref a0), .val (.long (((((0 : Int64) + u0) * (-7046029254386353131 : Int64)) + u1) * (-7046029254386353131 : Int64))), .second, .val (.ref a0), .val (.int (3 : Int32)), .val (.int (((0 : Int32) + (1 : Int32)) + (1 : Int32))), .val (.long u2), .second] [(.long (((((((0 : Int64) + u0) * (-7046029254386353131 : Int64)) + u1) * (-7046029254386353131 : Int64)) + u2) * (-7046029254386353131 : Int64)))])) _
    refine XT.lstoreN X0.here hx rfl (hb hby d2_32) rfl (l' := #[.val (.ref a0), .val (.long (((((((0 : Int64) + u0) * (-7046029254386353131 : Int64)) + u1) * (-7046029254386353131 : Int64)) + u2) * (-7046029254386353131 : Int64))), .second, .val (.ref a0), .val (.int (3 : Int32)), .val (.int (((0 : Int32) + (1 : Int32)) + (1 : Int32))), .val (.long u2), .second]) rfl ?_
    show Steps p.tables e below (s₁.setTop (mkF m 33 #[.val (.ref a0), .val (.long (((((((0 : Int64) + u0) * (-7046029254386353131 : Int64)) + u1) * (-7046029254386353131 : Int64)) + u2) * (-7046029254386353131 : Int64))), .second, .val (.ref a0), .val (.int (3 : Int32)), .val (.int (((0 : Int32) + (1 : Int32)) + (1 : Int32))), .val (.long u2), .second] [])) _
    refine XT.iincV X0.here hx rfl (1 : Int32) (hb hby d2_33) (by decide) rfl (l' := #[.val (.ref a0), .val (.long (((((((0 : Int64) + u0) * (-7046029254386353131 : Int64)) + u1) * (-7046029254386353131 : Int64)) + u2) * (-7046029254386353131 : Int64))), .second, .val (.ref a0), .val (.int (3 : Int32)), .val (.int ((((0 : Int32) + (1 : Int32)) + (1 : Int32)) + (1 : Int32))), .val (.long u2), .second]) rfl ?_
    show Steps p.tables e below (s₁.setTop (mkF m 36 #[.val (.ref a0), .val (.long (((((((0 : Int64) + u0) * (-7046029254386353131 : Int64)) + u1) * (-7046029254386353131 : Int64)) + u2) * (-7046029254386353131 : Int64))), .second, .val (.ref a0), .val (.int (3 : Int32)), .val (.int ((((0 : Int32) + (1 : Int32)) + (1 : Int32)) + (1 : Int32))), .val (.long u2), .second] [])) _
    refine XS.goto X0.here hx rfl (pc0 := 36) (pc' := 11) rfl (hb hby d2_36) (by decide) (by decide) ?_
    show Steps p.tables e below (s₁.setTop (mkF m 11 #[.val (.ref a0), .val (.long (((((((0 : Int64) + u0) * (-7046029254386353131 : Int64)) + u1) * (-7046029254386353131 : Int64)) + u2) * (-7046029254386353131 : Int64))), .second, .val (.ref a0), .val (.int (3 : Int32)), .val (.int ((((0 : Int32) + (1 : Int32)) + (1 : Int32)) + (1 : Int32))), .val (.long u2), .second] [])) _
    refine XS.iload X0.here hx rfl (hb hby d2_11) rfl ?_
    show Steps p.tables e below (s₁.setTop (mkF m 13 #[.val (.ref a0), .val (.long (((((((0 : Int64) + u0) * (-7046029254386353131 : Int64)) + u1) * (-7046029254386353131 : Int64)) + u2) * (-7046029254386353131 : Int64))), .second, .val (.ref a0), .val (.int (3 : Int32)), .val (.int ((((0 : Int32) + (1 : Int32)) + (1 : Int32)) + (1 : Int32))), .val (.long u2), .second] [(.int ((((0 : Int32) + (1 : Int32)) + (1 : Int32)) + (1 : Int32)))])) _
    refine XS.iload X0.here hx rfl (hb hby d2_13) rfl ?_
    show Steps p.tables e below (s₁.setTop (mkF m 15 #[.val (.ref a0), .val (.long (((((((0 : Int64) + u0) * (-7046029254386353131 : Int64)) + u1) * (-7046029254386353131 : Int64)) + u2) * (-7046029254386353131 : Int64))), .second, .val (.ref a0), .val (.int (3 : Int32)), .val (.int ((((0 : Int32) + (1 : Int32)) + (1 : Int32)) + (1 : Int32))), .val (.long u2), .second] [(.int (3 : Int32)), (.int ((((0 : Int32) + (1 : Int32)) + (1 : Int32)) + (1 : Int32)))])) _
    refine XS.icmpYes X0.here hx rfl (pc0 := 15) (pc' := 39) rfl (hb hby d2_15) rfl (XT.ii_ge_t (by decide)) (by decide) (by decide) ?_
    show Steps p.tables e below (s₁.setTop (mkF m 39 #[.val (.ref a0), .val (.long (((((((0 : Int64) + u0) * (-7046029254386353131 : Int64)) + u1) * (-7046029254386353131 : Int64)) + u2) * (-7046029254386353131 : Int64))), .second, .val (.ref a0), .val (.int (3 : Int32)), .val (.int ((((0 : Int32) + (1 : Int32)) + (1 : Int32)) + (1 : Int32))), .val (.long u2), .second] [])) _
    refine XT.lloadN X0.here hx rfl (hb hby d2_39) rfl ?_
    show Steps p.tables e below (s₁.setTop (mkF m 40 #[.val (.ref a0), .val (.long (((((((0 : Int64) + u0) * (-7046029254386353131 : Int64)) + u1) * (-7046029254386353131 : Int64)) + u2) * (-7046029254386353131 : Int64))), .second, .val (.ref a0), .val (.int (3 : Int32)), .val (.int ((((0 : Int32) + (1 : Int32)) + (1 : Int32)) + (1 : Int32))), .val (.long u2), .second] [(.long (((((((0 : Int64) + u0) * (-7046029254386353131 : Int64)) + u1) * (-7046029254386353131 : Int64)) + u2) * (-7046029254386353131 : Int64)))])) _
    refine XT.lloadN X0.here hx rfl (hb hby d2_40) rfl ?_
    show Steps p.tables e below (s₁.setTop (mkF m 41 #[.val (.ref a0), .val (.long (((((((0 : Int64) + u0) * (-7046029254386353131 : Int64)) + u1) * (-7046029254386353131 : Int64)) + u2) * (-7046029254386353131 : Int64))), .second, .val (.ref a0), .val (.int (3 : Int32)), .val (.int ((((0 : Int32) + (1 : Int32)) + (1 : Int32)) + (1 : Int32))), .val (.long u2), .second] [(.long (((((((0 : Int64) + u0) * (-7046029254386353131 : Int64)) + u1) * (-7046029254386353131 : Int64)) + u2) * (-7046029254386353131 : Int64))), (.long (((((((0 : Int64) + u0) * (-7046029254386353131 : Int64)) + u1) * (-7046029254386353131 : Int64)) + u2) * (-7046029254386353131 : Int64)))])) _
    refine XT.bipushV X0.here hx rfl (33 : Int32) (hb hby d2_41) (by decide) ?_
    show Steps p.tables e below (s₁.setTop (mkF m 43 #[.val (.ref a0), .val (.long (((((((0 : Int64) + u0) * (-7046029254386353131 : Int64)) + u1) * (-7046029254386353131 : Int64)) + u2) * (-7046029254386353131 : Int64))), .second, .val (.ref a0), .val (.int (3 : Int32)), .val (.int ((((0 : Int32) + (1 : Int32)) + (1 : Int32)) + (1 : Int32))), .val (.long u2), .second] [(.int (33 : Int32)), (.long (((((((0 : Int64) + u0) * (-7046029254386353131 : Int64)) + u1) * (-7046029254386353131 : Int64)) + u2) * (-7046029254386353131 : Int64))), (.long (((((((0 : Int64) + u0) * (-7046029254386353131 : Int64)) + u1) * (-7046029254386353131 : Int64)) + u2) * (-7046029254386353131 : Int64)))])) _
    refine XT.lushr X0.here hx rfl (hb hby d2_43) rfl ?_
    show Steps p.tables e below (s₁.setTop (mkF m 44 #[.val (.ref a0), .val (.long (((((((0 : Int64) + u0) * (-7046029254386353131 : Int64)) + u1) * (-7046029254386353131 : Int64)) + u2) * (-7046029254386353131 : Int64))), .second, .val (.ref a0), .val (.int (3 : Int32)), .val (.int ((((0 : Int32) + (1 : Int32)) + (1 : Int32)) + (1 : Int32))), .val (.long u2), .second] [(.long (XT.ushrL (((((((0 : Int64) + u0) * (-7046029254386353131 : Int64)) + u1) * (-7046029254386353131 : Int64)) + u2) * (-7046029254386353131 : Int64)) (33 : Int32))), (.long (((((((0 : Int64) + u0) * (-7046029254386353131 : Int64)) + u1) * (-7046029254386353131 : Int64)) + u2) * (-7046029254386353131 : Int64)))])) _
    refine XT.lxor X0.here hx rfl (hb hby d2_44) rfl ?_
    show Steps p.tables e below (s₁.setTop (mkF m 45 #[.val (.ref a0), .val (.long (((((((0 : Int64) + u0) * (-7046029254386353131 : Int64)) + u1) * (-7046029254386353131 : Int64)) + u2) * (-7046029254386353131 : Int64))), .second, .val (.ref a0), .val (.int (3 : Int32)), .val (.int ((((0 : Int32) + (1 : Int32)) + (1 : Int32)) + (1 : Int32))), .val (.long u2), .second] [(.long ((((((((0 : Int64) + u0) * (-7046029254386353131 : Int64)) + u1) * (-7046029254386353131 : Int64)) + u2) * (-7046029254386353131 : Int64)) ^^^ (XT.ushrL (((((((0 : Int64) + u0) * (-7046029254386353131 : Int64)) + u1) * (-7046029254386353131 : Int64)) + u2) * (-7046029254386353131 : Int64)) (33 : Int32))))])) _
    refine XT.lstoreN X0.here hx rfl (hb hby d2_45) rfl (l' := #[.val (.ref a0), .val (.long ((((((((0 : Int64) + u0) * (-7046029254386353131 : Int64)) + u1) * (-7046029254386353131 : Int64)) + u2) * (-7046029254386353131 : Int64)) ^^^ (XT.ushrL (((((((0 : Int64) + u0) * (-7046029254386353131 : Int64)) + u1) * (-7046029254386353131 : Int64)) + u2) * (-7046029254386353131 : Int64)) (33 : Int32)))), .second, .val (.ref a0), .val (.int (3 : Int32)), .val (.int ((((0 : Int32) + (1 : Int32)) + (1 : Int32)) + (1 : Int32))), .val (.long u2), .second]) rfl ?_
    show Steps p.tables e below (s₁.setTop (mkF m 46 #[.val (.ref a0), .val (.long ((((((((0 : Int64) + u0) * (-7046029254386353131 : Int64)) + u1) * (-7046029254386353131 : Int64)) + u2) * (-7046029254386353131 : Int64)) ^^^ (XT.ushrL (((((((0 : Int64) + u0) * (-7046029254386353131 : Int64)) + u1) * (-7046029254386353131 : Int64)) + u2) * (-7046029254386353131 : Int64)) (33 : Int32)))), .second, .val (.ref a0), .val (.int (3 : Int32)), .val (.int ((((0 : Int32) + (1 : Int32)) + (1 : Int32)) + (1 : Int32))), .val (.long u2), .second] [])) _
    refine XT.lloadN X0.here hx rfl (hb hby d2_46) rfl ?_
    show Steps p.tables e below (s₁.setTop (mkF m 47 #[.val (.ref a0), .val (.long ((((((((0 : Int64) + u0) * (-7046029254386353131 : Int64)) + u1) * (-7046029254386353131 : Int64)) + u2) * (-7046029254386353131 : Int64)) ^^^ (XT.ushrL (((((((0 : Int64) + u0) * (-7046029254386353131 : Int64)) + u1) * (-7046029254386353131 : Int64)) + u2) * (-7046029254386353131 : Int64)) (33 : Int32)))), .second, .val (.ref a0), .val (.int (3 : Int32)), .val (.int ((((0 : Int32) + (1 : Int32)) + (1 : Int32)) + (1 : Int32))), .val (.long u2), .second] [(.long ((((((((0 : Int64) + u0) * (-7046029254386353131 : Int64)) + u1) * (-7046029254386353131 : Int64)) + u2) * (-7046029254386353131 : Int64)) ^^^ (XT.ushrL (((((((0 : Int64) + u0) * (-7046029254386353131 : Int64)) + u1) * (-7046029254386353131 : Int64)) + u2) * (-7046029254386353131 : Int64)) (33 : Int32))))])) _
    refine X0.ldc2J hx hown (mvT hZ (hw _ (List.mem_of_getElem? (i := 10) rfl))) rfl (hb hby d2_47) ?_
    show Steps p.tables e below (s₁.setTop (mkF m 50 #[.val (.ref a0), .val (.long ((((((((0 : Int64) + u0) * (-7046029254386353131 : Int64)) + u1) * (-7046029254386353131 : Int64)) + u2) * (-7046029254386353131 : Int64)) ^^^ (XT.ushrL (((((((0 : Int64) + u0) * (-7046029254386353131 : Int64)) + u1) * (-7046029254386353131 : Int64)) + u2) * (-7046029254386353131 : Int64)) (33 : Int32)))), .second, .val (.ref a0), .val (.int (3 : Int32)), .val (.int ((((0 : Int32) + (1 : Int32)) + (1 : Int32)) + (1 : Int32))), .val (.long u2), .second] [(.long (-49064778989728563 : Int64)), (.long ((((((((0 : Int64) + u0) * (-7046029254386353131 : Int64)) + u1) * (-7046029254386353131 : Int64)) + u2) * (-7046029254386353131 : Int64)) ^^^ (XT.ushrL (((((((0 : Int64) + u0) * (-7046029254386353131 : Int64)) + u1) * (-7046029254386353131 : Int64)) + u2) * (-7046029254386353131 : Int64)) (33 : Int32))))])) _
    refine XT.lmul X0.here hx rfl (hb hby d2_50) rfl ?_
    show Steps p.tables e below (s₁.setTop (mkF m 51 #[.val (.ref a0), .val (.long ((((((((0 : Int64) + u0) * (-7046029254386353131 : Int64)) + u1) * (-7046029254386353131 : Int64)) + u2) * (-7046029254386353131 : Int64)) ^^^ (XT.ushrL (((((((0 : Int64) + u0) * (-7046029254386353131 : Int64)) + u1) * (-7046029254386353131 : Int64)) + u2) * (-7046029254386353131 : Int64)) (33 : Int32)))), .second, .val (.ref a0), .val (.int (3 : Int32)), .val (.int ((((0 : Int32) + (1 : Int32)) + (1 : Int32)) + (1 : Int32))), .val (.long u2), .second] [(.long (((((((((0 : Int64) + u0) * (-7046029254386353131 : Int64)) + u1) * (-7046029254386353131 : Int64)) + u2) * (-7046029254386353131 : Int64)) ^^^ (XT.ushrL (((((((0 : Int64) + u0) * (-7046029254386353131 : Int64)) + u1) * (-7046029254386353131 : Int64)) + u2) * (-7046029254386353131 : Int64)) (33 : Int32))) * (-49064778989728563 : Int64)))])) _
    refine XT.lstoreN X0.here hx rfl (hb hby d2_51) rfl (l' := #[.val (.ref a0), .val (.long (((((((((0 : Int64) + u0) * (-7046029254386353131 : Int64)) + u1) * (-7046029254386353131 : Int64)) + u2) * (-7046029254386353131 : Int64)) ^^^ (XT.ushrL (((((((0 : Int64) + u0) * (-7046029254386353131 : Int64)) + u1) * (-7046029254386353131 : Int64)) + u2) * (-7046029254386353131 : Int64)) (33 : Int32))) * (-49064778989728563 : Int64))), .second, .val (.ref a0), .val (.int (3 : Int32)), .val (.int ((((0 : Int32) + (1 : Int32)) + (1 : Int32)) + (1 : Int32))), .val (.long u2), .second]) rfl ?_
    show Steps p.tables e below (s₁.setTop (mkF m 52 #[.val (.ref a0), .val (.long (((((((((0 : Int64) + u0) * (-7046029254386353131 : Int64)) + u1) * (-7046029254386353131 : Int64)) + u2) * (-7046029254386353131 : Int64)) ^^^ (XT.ushrL (((((((0 : Int64) + u0) * (-7046029254386353131 : Int64)) + u1) * (-7046029254386353131 : Int64)) + u2) * (-7046029254386353131 : Int64)) (33 : Int32))) * (-49064778989728563 : Int64))), .second, .val (.ref a0), .val (.int (3 : Int32)), .val (.int ((((0 : Int32) + (1 : Int32)) + (1 : Int32)) + (1 : Int32))), .val (.long u2), .second] [])) _
    refine XT.lloadN X0.here hx rfl (hb hby d2_52) rfl ?_
    show Steps p.tables e below (s₁.setTop (mkF m 53 #[.val (.ref a0), .val (.long (((((((((0 : Int64) + u0) * (-7046029254386353131 : Int64)) + u1) * (-7046029254386353131 : Int64)) + u2) * (-7046029254386353131 : Int64)) ^^^ (XT.ushrL (((((((0 : Int64) + u0) * (-7046029254386353131 : Int64)) + u1) * (-7046029254386353131 : Int64)) + u2) * (-7046029254386353131 : Int64)) (33 : Int32))) * (-49064778989728563 : Int64))), .second, .val (.ref a0), .val (.int (3 : Int32)), .val (.int ((((0 : Int32) + (1 : Int32)) + (1 : Int32)) + (1 : Int32))), .val (.long u2), .second] [(.long (((((((((0 : Int64) + u0) * (-7046029254386353131 : Int64)) + u1) * (-7046029254386353131 : Int64)) + u2) * (-7046029254386353131 : Int64)) ^^^ (XT.ushrL (((((((0 : Int64) + u0) * (-7046029254386353131 : Int64)) + u1) * (-7046029254386353131 : Int64)) + u2) * (-7046029254386353131 : Int64)) (33 : Int32))) * (-49064778989728563 : Int64)))])) _
    refine XT.lloadN X0.here hx rfl (hb hby d2_53) rfl ?_
    show Steps p.tables e below (s₁.setTop (mkF m 54 #[.val (.ref a0), .val (.long (((((((((0 : Int64) + u0) * (-7046029254386353131 : Int64)) + u1) * (-7046029254386353131 : Int64)) + u2) * (-7046029254386353131 : Int64)) ^^^ (XT.ushrL (((((((0 : Int64) + u0) * (-7046029254386353131 : Int64)) + u1) * (-7046029254386353131 : Int64)) + u2) * (-7046029254386353131 : Int64)) (33 : Int32))) * (-49064778989728563 : Int64))), .second, .val (.ref a0), .val (.int (3 : Int32)), .val (.int ((((0 : Int32) + (1 : Int32)) + (1 : Int32)) + (1 : Int32))), .val (.long u2), .second] [(.long (((((((((0 : Int64) + u0) * (-7046029254386353131 : Int64)) + u1) * (-7046029254386353131 : Int64)) + u2) * (-7046029254386353131 : Int64)) ^^^ (XT.ushrL (((((((0 : Int64) + u0) * (-7046029254386353131 : Int64)) + u1) * (-7046029254386353131 : Int64)) + u2) * (-7046029254386353131 : Int64)) (33 : Int32))) * (-49064778989728563 : Int64))), (.long (((((((((0 : Int64) + u0) * (-7046029254386353131 : Int64)) + u1) * (-7046029254386353131 : Int64)) + u2) * (-7046029254386353131 : Int64)) ^^^ (XT.ushrL (((((((0 : Int64) + u0) * (-7046029254386353131 : Int64)) + u1) * (-7046029254386353131 : Int64)) + u2) * (-7046029254386353131 : Int64)) (33 : Int32))) * (-49064778989728563 : Int64)))])) _
    refine XT.bipushV X0.here hx rfl (33 : Int32) (hb hby d2_54) (by decide) ?_
    show Steps p.tables e below (s₁.setTop (mkF m 56 #[.val (.ref a0), .val (.long (((((((((0 : Int64) + u0) * (-7046029254386353131 : Int64)) + u1) * (-7046029254386353131 : Int64)) + u2) * (-7046029254386353131 : Int64)) ^^^ (XT.ushrL (((((((0 : Int64) + u0) * (-7046029254386353131 : Int64)) + u1) * (-7046029254386353131 : Int64)) + u2) * (-7046029254386353131 : Int64)) (33 : Int32))) * (-49064778989728563 : Int64))), .second, .val (.ref a0), .val (.int (3 : Int32)), .val (.int ((((0 : Int32) + (1 : Int32)) + (1 : Int32)) + (1 : Int32))), .val (.long u2), .second] [(.int (33 : Int32)), (.long (((((((((0 : Int64) + u0) * (-7046029254386353131 : Int64)) + u1) * (-7046029254386353131 : Int64)) + u2) * (-7046029254386353131 : Int64)) ^^^ (XT.ushrL (((((((0 : Int64) + u0) * (-7046029254386353131 : Int64)) + u1) * (-7046029254386353131 : Int64)) + u2) * (-7046029254386353131 : Int64)) (33 : Int32))) * (-49064778989728563 : Int64))), (.long (((((((((0 : Int64) + u0) * (-7046029254386353131 : Int64)) + u1) * (-7046029254386353131 : Int64)) + u2) * (-7046029254386353131 : Int64)) ^^^ (XT.ushrL (((((((0 : Int64) + u0) * (-7046029254386353131 : Int64)) + u1) * (-7046029254386353131 : Int64)) + u2) * (-7046029254386353131 : Int64)) (33 : Int32))) * (-49064778989728563 : Int64)))])) _
    refine XT.lushr X0.here hx rfl (hb hby d2_56) rfl ?_
    show Steps p.tables e below (s₁.setTop (mkF m 57 #[.val (.ref a0), .val (.long (((((((((0 : Int64) + u0) * (-7046029254386353131 : Int64)) + u1) * (-7046029254386353131 : Int64)) + u2) * (-7046029254386353131 : Int64)) ^^^ (XT.ushrL (((((((0 : Int64) + u0) * (-7046029254386353131 : Int64)) + u1) * (-7046029254386353131 : Int64)) + u2) * (-7046029254386353131 : Int64)) (33 : Int32))) * (-49064778989728563 : Int64))), .second, .val (.ref a0), .val (.int (3 : Int32)), .val (.int ((((0 : Int32) + (1 : Int32)) + (1 : Int32)) + (1 : Int32))), .val (.long u2), .second] [(.long (XT.ushrL (((((((((0 : Int64) + u0) * (-7046029254386353131 : Int64)) + u1) * (-7046029254386353131 : Int64)) + u2) * (-7046029254386353131 : Int64)) ^^^ (XT.ushrL (((((((0 : Int64) + u0) * (-7046029254386353131 : Int64)) + u1) * (-7046029254386353131 : Int64)) + u2) * (-7046029254386353131 : Int64)) (33 : Int32))) * (-49064778989728563 : Int64)) (33 : Int32))), (.long (((((((((0 : Int64) + u0) * (-7046029254386353131 : Int64)) + u1) * (-7046029254386353131 : Int64)) + u2) * (-7046029254386353131 : Int64)) ^^^ (XT.ushrL (((((((0 : Int64) + u0) * (-7046029254386353131 : Int64)) + u1) * (-7046029254386353131 : Int64)) + u2) * (-7046029254386353131 : Int64)) (33 : Int32))) * (-49064778989728563 : Int64)))])) _
    refine XT.lxor X0.here hx rfl (hb hby d2_57) rfl ?_
    show Steps p.tables e below (s₁.setTop (mkF m 58 #[.val (.ref a0), .val (.long (((((((((0 : Int64) + u0) * (-7046029254386353131 : Int64)) + u1) * (-7046029254386353131 : Int64)) + u2) * (-7046029254386353131 : Int64)) ^^^ (XT.ushrL (((((((0 : Int64) + u0) * (-7046029254386353131 : Int64)) + u1) * (-7046029254386353131 : Int64)) + u2) * (-7046029254386353131 : Int64)) (33 : Int32))) * (-49064778989728563 : Int64))), .second, .val (.ref a0), .val (.int (3 : Int32)), .val (.int ((((0 : Int32) + (1 : Int32)) + (1 : Int32)) + (1 : Int32))), .val (.long u2), .second] [(.long ((((((((((0 : Int64) + u0) * (-7046029254386353131 : Int64)) + u1) * (-7046029254386353131 : Int64)) + u2) * (-7046029254386353131 : Int64)) ^^^ (XT.ushrL (((((((0 : Int64) + u0) * (-7046029254386353131 : Int64)) + u1) * (-7046029254386353131 : Int64)) + u2) * (-7046029254386353131 : Int64)) (33 : Int32))) * (-49064778989728563 : Int64)) ^^^ (XT.ushrL (((((((((0 : Int64) + u0) * (-7046029254386353131 : Int64)) + u1) * (-7046029254386353131 : Int64)) + u2) * (-7046029254386353131 : Int64)) ^^^ (XT.ushrL (((((((0 : Int64) + u0) * (-7046029254386353131 : Int64)) + u1) * (-7046029254386353131 : Int64)) + u2) * (-7046029254386353131 : Int64)) (33 : Int32))) * (-49064778989728563 : Int64)) (33 : Int32))))])) _
    refine XT.lstoreN X0.here hx rfl (hb hby d2_58) rfl (l' := #[.val (.ref a0), .val (.long ((((((((((0 : Int64) + u0) * (-7046029254386353131 : Int64)) + u1) * (-7046029254386353131 : Int64)) + u2) * (-7046029254386353131 : Int64)) ^^^ (XT.ushrL (((((((0 : Int64) + u0) * (-7046029254386353131 : Int64)) + u1) * (-7046029254386353131 : Int64)) + u2) * (-7046029254386353131 : Int64)) (33 : Int32))) * (-49064778989728563 : Int64)) ^^^ (XT.ushrL (((((((((0 : Int64) + u0) * (-7046029254386353131 : Int64)) + u1) * (-7046029254386353131 : Int64)) + u2) * (-7046029254386353131 : Int64)) ^^^ (XT.ushrL (((((((0 : Int64) + u0) * (-7046029254386353131 : Int64)) + u1) * (-7046029254386353131 : Int64)) + u2) * (-7046029254386353131 : Int64)) (33 : Int32))) * (-49064778989728563 : Int64)) (33 : Int32)))), .second, .val (.ref a0), .val (.int (3 : Int32)), .val (.int ((((0 : Int32) + (1 : Int32)) + (1 : Int32)) + (1 : Int32))), .val (.long u2), .second]) rfl ?_
    show Steps p.tables e below (s₁.setTop (mkF m 59 #[.val (.ref a0), .val (.long ((((((((((0 : Int64) + u0) * (-7046029254386353131 : Int64)) + u1) * (-7046029254386353131 : Int64)) + u2) * (-7046029254386353131 : Int64)) ^^^ (XT.ushrL (((((((0 : Int64) + u0) * (-7046029254386353131 : Int64)) + u1) * (-7046029254386353131 : Int64)) + u2) * (-7046029254386353131 : Int64)) (33 : Int32))) * (-49064778989728563 : Int64)) ^^^ (XT.ushrL (((((((((0 : Int64) + u0) * (-7046029254386353131 : Int64)) + u1) * (-7046029254386353131 : Int64)) + u2) * (-7046029254386353131 : Int64)) ^^^ (XT.ushrL (((((((0 : Int64) + u0) * (-7046029254386353131 : Int64)) + u1) * (-7046029254386353131 : Int64)) + u2) * (-7046029254386353131 : Int64)) (33 : Int32))) * (-49064778989728563 : Int64)) (33 : Int32)))), .second, .val (.ref a0), .val (.int (3 : Int32)), .val (.int ((((0 : Int32) + (1 : Int32)) + (1 : Int32)) + (1 : Int32))), .val (.long u2), .second] [])) _
    refine XT.lloadN X0.here hx rfl (hb hby d2_59) rfl ?_
    show Steps p.tables e below (s₁.setTop (mkF m 60 #[.val (.ref a0), .val (.long ((((((((((0 : Int64) + u0) * (-7046029254386353131 : Int64)) + u1) * (-7046029254386353131 : Int64)) + u2) * (-7046029254386353131 : Int64)) ^^^ (XT.ushrL (((((((0 : Int64) + u0) * (-7046029254386353131 : Int64)) + u1) * (-7046029254386353131 : Int64)) + u2) * (-7046029254386353131 : Int64)) (33 : Int32))) * (-49064778989728563 : Int64)) ^^^ (XT.ushrL (((((((((0 : Int64) + u0) * (-7046029254386353131 : Int64)) + u1) * (-7046029254386353131 : Int64)) + u2) * (-7046029254386353131 : Int64)) ^^^ (XT.ushrL (((((((0 : Int64) + u0) * (-7046029254386353131 : Int64)) + u1) * (-7046029254386353131 : Int64)) + u2) * (-7046029254386353131 : Int64)) (33 : Int32))) * (-49064778989728563 : Int64)) (33 : Int32)))), .second, .val (.ref a0), .val (.int (3 : Int32)), .val (.int ((((0 : Int32) + (1 : Int32)) + (1 : Int32)) + (1 : Int32))), .val (.long u2), .second] [(.long ((((((((((0 : Int64) + u0) * (-7046029254386353131 : Int64)) + u1) * (-7046029254386353131 : Int64)) + u2) * (-7046029254386353131 : Int64)) ^^^ (XT.ushrL (((((((0 : Int64) + u0) * (-7046029254386353131 : Int64)) + u1) * (-7046029254386353131 : Int64)) + u2) * (-7046029254386353131 : Int64)) (33 : Int32))) * (-49064778989728563 : Int64)) ^^^ (XT.ushrL (((((((((0 : Int64) + u0) * (-7046029254386353131 : Int64)) + u1) * (-7046029254386353131 : Int64)) + u2) * (-7046029254386353131 : Int64)) ^^^ (XT.ushrL (((((((0 : Int64) + u0) * (-7046029254386353131 : Int64)) + u1) * (-7046029254386353131 : Int64)) + u2) * (-7046029254386353131 : Int64)) (33 : Int32))) * (-49064778989728563 : Int64)) (33 : Int32))))])) _
    exact k)
  obtain ⟨fs, hr, hrun, hended, hW, hsame⟩ := X0.leave (v := some (.long ((((((((((0 : Int64) + u0) * (-7046029254386353131 : Int64)) + u1) * (-7046029254386353131 : Int64)) + u2) * (-7046029254386353131 : Int64)) ^^^ (XT.ushrL (((((((0 : Int64) + u0) * (-7046029254386353131 : Int64)) + u1) * (-7046029254386353131 : Int64)) + u2) * (-7046029254386353131 : Int64)) (33 : Int32))) * (-49064778989728563 : Int64)) ^^^ (XT.ushrL (((((((((0 : Int64) + u0) * (-7046029254386353131 : Int64)) + u1) * (-7046029254386353131 : Int64)) + u2) * (-7046029254386353131 : Int64)) ^^^ (XT.ushrL (((((((0 : Int64) + u0) * (-7046029254386353131 : Int64)) + u1) * (-7046029254386353131 : Int64)) + u2) * (-7046029254386353131 : Int64)) (33 : Int32))) * (-49064778989728563 : Int64)) (33 : Int32))))) (fun h => by rw [Bd.returns] at h; cases h)
  refine ⟨_, _, pre0 _ (S5 _ ?_), hrun, hended, _, _, rfl, ?_, ⟨_, rfl⟩, hW, hsame.mono (by decide) (by decide)⟩
  · exact X0.lreturnOut hx Bd.returns (hb hby d2_60) hr
  · show QrmHash3 Z a0 kk u0 u1 u2 h0 n0 _ s₁.heap _
    rw [e0]
    exact ⟨rfl, N0, rfl⟩
theorem d3_0 : decode method_3_code 0 = .ok (.aload_n 0, 1) := by decide +kernel
theorem d3_1 : decode method_3_code 1 = .ok (.arraylength, 1) := by decide +kernel
theorem d3_2 : decode method_3_code 2 = .ok (.iload_n 1, 1) := by decide +kernel
theorem d3_3 : decode method_3_code 3 = .ok (.if_icmp .eq 5, 3) := by decide +kernel
theorem d3_8 : decode method_3_code 8 = .ok (.iload_n 1, 1) := by decide +kernel
theorem d3_9 : decode method_3_code 9 = .ok (.ifCond .le 13, 3) := by decide +kernel
theorem d3_22 : decode method_3_code 22 = .ok (.iload_n 1, 1) := by decide +kernel
theorem d3_23 : decode method_3_code 23 = .ok (.iconst 1, 1) := by decide +kernel
theorem d3_24 : decode method_3_code 24 = .ok (.if_icmp .le 14, 3) := by decide +kernel
theorem d3_38 : decode method_3_code 38 = .ok (.iload_n 1, 1) := by decide +kernel
theorem d3_39 : decode method_3_code 39 = .ok (.iconst 2, 1) := by decide +kernel
theorem d3_40 : decode method_3_code 40 = .ok (.if_icmp .le 14, 3) := by decide +kernel
theorem d3_54 : decode method_3_code 54 = .ok (.iconst 1, 1) := by decide +kernel
theorem d3_55 : decode method_3_code 55 = .ok (.ireturn, 1) := by decide +kernel
def QrmUn0 (Z : State) (a0 : Addr) (kk : ClassId) (q1 : Int64) (q2 : Int64) (q3 : Int64) (h0 : Heap) (n0 : Nat) (v : Option Value) (h : Heap) (L : List Loc) : Prop := v = some (.int 1) ∧ Fr n0 L ∧ h = h0
set_option maxRecDepth 65536 in
set_option maxHeartbeats 40000000 in
theorem rmUn0 (l : Launch) (Z : State) (av0 : Array Value) (hw : ∀ d ∈ tables_1, d.before av0 Z = true) (ws : List Jvm.Cond) (a0 : Addr) (kk : ClassId) (q1 : Int64) (q2 : Int64) (q3 : Int64) (h0 : Heap) (n0 : Nat) (Z0 : n0 ≤ h0.size) (Ha : Arv Z h0 a0 kk .long (0 : Int32) [] (.long (0 : Int64))) :
    MetFree l (⟨"com/example/bare_refinement/barerefinement/exploration/StateSpaceHashPinLaw", "unchanged", "([JIJJJ)Z"⟩ : MethodName) (head1 (Jvm.Cond.code (⟨"com/example/bare_refinement/barerefinement/exploration/StateSpaceHashPinLaw", "unchanged", "([JIJJJ)Z"⟩ : MethodName) method_3_code 8 (some .boolean) :: ws) ({ frames := 0, cells := 0, slots := 0, locals := 0 } : Room)) (fun aU U => aU = #[(.ref a0), (.int (0 : Int32)), (.long q1), (.long q2), (.long q3)] ∧ Z.Warmed39 U.vm ∧ U.heap = h0) (fun _ _ _ _ _ => True) (fun _ U oU U' => ∃ vU LU, oU = .returned vU ∧ QrmUn0 Z a0 kk q1 q2 q3 h0 n0 vU U'.heap LU ∧ FrameEnd U oU U' LU ({ frames := 0, cells := 0, slots := 0, locals := 0 } : Room).cells ({ frames := 0, cells := 0, slots := 0, locals := 0 } : Room).slots) := by
  refine MetFree.of_bodySF (plainFor_of_name pn_StateSpaceHashPinLaw) hisR ?_
  intro p e s m args below meth c s₁ Bd hml0 hP hK
  obtain ⟨rfl, hZ, hh⟩ := hP
  have hx := Bd.exec
  have hby := Bd.bytes
  have hml : c.maxLocals = 8 := hml0
  have hown : s.vm.findClass "com/example/bare_refinement/barerefinement/exploration/StateSpaceHashPinLaw" = some m.cls := findClass_of_methodNamed Bd.named
  have hnm := (name_of_methodNamed Bd.named Bd.method).1
  have X0 : Stand p l e ({ frames := 0, cells := 0, slots := 0, locals := 0 } : Room) s m #[(.ref a0), (.int (0 : Int32)), (.long q1), (.long q2), (.long q3)] below meth c s₁ [] 0 0 := Stand.of_body Bd
  have e0 : s₁.heap = h0 := by rw [← hh, Bd.state]; rfl
  have N0 := Fr.nil n0
  have pre0 : ∀ t, Steps p.tables e below (s₁.setTop (mkF m 0 #[.val (.ref a0), .val (.int (0 : Int32)), .val (.long q1), .second, .val (.long q2), .second, .val (.long q3), .second] [])) t → Steps p.tables e below (s₁.setTop (entryFrame m #[(.ref a0), (.int (0 : Int32)), (.long q1), (.long q2), (.long q3)] 8)) t := fun t k => castTop (by first | (simp [entryFrame, mkF, argsToLocals, Value.category]; done) | rfl) k
  obtain ⟨cl1, Ar1, qk1, Sz1, Ng1, Hs1, Gs1⟩ := id Ha
  have S2 : ∀ t, Steps p.tables e below (s₁.setTop (mkF m 55 #[.val (.ref a0), .val (.int (0 : Int32)), .val (.long q1), .second, .val (.long q2), .second, .val (.long q3), .second] [(.int (1 : Int32))])) t → Steps p.tables e below (s₁.setTop (mkF m 0 #[.val (.ref a0), .val (.int (0 : Int32)), .val (.long q1), .second, .val (.long q2), .second, .val (.long q3), .second] [])) t := fun t k => id (by
    show Steps p.tables e below (s₁.setTop (mkF m 0 #[.val (.ref a0), .val (.int (0 : Int32)), .val (.long q1), .second, .val (.long q2), .second, .val (.long q3), .second] [])) _
    refine XS.aloadN X0.here hx rfl (hb hby d3_0) rfl rfl ?_
    show Steps p.tables e below (s₁.setTop (mkF m 1 #[.val (.ref a0), .val (.int (0 : Int32)), .val (.long q1), .second, .val (.long q2), .second, .val (.long q3), .second] [(.ref a0)])) _
    refine X0.arraylength hx (by rw [e0]; exact Ar1.1) (State.isArrayOf_alike hZ.alike Ar1.2.1) (g := (mkF m 1 #[.val (.ref a0), .val (.int (0 : Int32)), .val (.long q1), .second, .val (.long q2), .second, .val (.long q3), .second] [(.ref a0)])) rfl rfl (hb hby d3_1) _ ?_
    rw [len_of Sz1 Ng1]
    show Steps p.tables e below (s₁.setTop (mkF m 2 #[.val (.ref a0), .val (.int (0 : Int32)), .val (.long q1), .second, .val (.long q2), .second, .val (.long q3), .second] [(.int (0 : Int32))])) _
    refine XS.iloadN X0.here hx rfl (hb hby d3_2) rfl ?_
    show Steps p.tables e below (s₁.setTop (mkF m 3 #[.val (.ref a0), .val (.int (0 : Int32)), .val (.long q1), .second, .val (.long q2), .second, .val (.long q3), .second] [(.int (0 : Int32)), (.int (0 : Int32))])) _
    refine XS.icmpYes X0.here hx rfl (pc0 := 3) (pc' := 8) rfl (hb hby d3_3) rfl (XT.ii_eq_t (by decide)) (by decide) (by decide) ?_
    show Steps p.tables e below (s₁.setTop (mkF m 8 #[.val (.ref a0), .val (.int (0 : Int32)), .val (.long q1), .second, .val (.long q2), .second, .val (.long q3), .second] [])) _
    refine XS.iloadN X0.here hx rfl (hb hby d3_8) rfl ?_
    show Steps p.tables e below (s₁.setTop (mkF m 9 #[.val (.ref a0), .val (.int (0 : Int32)), .val (.long q1), .second, .val (.long q2), .second, .val (.long q3), .second] [(.int (0 : Int32))])) _
    refine XS.ifYes X0.here hx rfl (pc0 := 9) (pc' := 22) rfl (hb hby d3_9) rfl (XT.i0_le_t (by decide)) (by decide) (by decide) ?_
    show Steps p.tables e below (s₁.setTop (mkF m 22 #[.val (.ref a0), .val (.int (0 : Int32)), .val (.long q1), .second, .val (.long q2), .second, .val (.long q3), .second] [])) _
    refine XS.iloadN X0.here hx rfl (hb hby d3_22) rfl ?_
    show Steps p.tables e below (s₁.setTop (mkF m 23 #[.val (.ref a0), .val (.int (0 : Int32)), .val (.long q1), .second, .val (.long q2), .second, .val (.long q3), .second] [(.int (0 : Int32))])) _
    refine XT.iconstV X0.here hx rfl (1 : Int32) (hb hby d3_23) (by decide) ?_
    show Steps p.tables e below (s₁.setTop (mkF m 24 #[.val (.ref a0), .val (.int (0 : Int32)), .val (.long q1), .second, .val (.long q2), .second, .val (.long q3), .second] [(.int (1 : Int32)), (.int (0 : Int32))])) _
    refine XS.icmpYes X0.here hx rfl (pc0 := 24) (pc' := 38) rfl (hb hby d3_24) rfl (XT.ii_le_t (by decide)) (by decide) (by decide) ?_
    show Steps p.tables e below (s₁.setTop (mkF m 38 #[.val (.ref a0), .val (.int (0 : Int32)), .val (.long q1), .second, .val (.long q2), .second, .val (.long q3), .second] [])) _
    refine XS.iloadN X0.here hx rfl (hb hby d3_38) rfl ?_
    show Steps p.tables e below (s₁.setTop (mkF m 39 #[.val (.ref a0), .val (.int (0 : Int32)), .val (.long q1), .second, .val (.long q2), .second, .val (.long q3), .second] [(.int (0 : Int32))])) _
    refine XT.iconstV X0.here hx rfl (2 : Int32) (hb hby d3_39) (by decide) ?_
    show Steps p.tables e below (s₁.setTop (mkF m 40 #[.val (.ref a0), .val (.int (0 : Int32)), .val (.long q1), .second, .val (.long q2), .second, .val (.long q3), .second] [(.int (2 : Int32)), (.int (0 : Int32))])) _
    refine XS.icmpYes X0.here hx rfl (pc0 := 40) (pc' := 54) rfl (hb hby d3_40) rfl (XT.ii_le_t (by decide)) (by decide) (by decide) ?_
    show Steps p.tables e below (s₁.setTop (mkF m 54 #[.val (.ref a0), .val (.int (0 : Int32)), .val (.long q1), .second, .val (.long q2), .second, .val (.long q3), .second] [])) _
    refine XT.iconstV X0.here hx rfl (1 : Int32) (hb hby d3_54) (by decide) ?_
    show Steps p.tables e below (s₁.setTop (mkF m 55 #[.val (.ref a0), .val (.int (0 : Int32)), .val (.long q1), .second, .val (.long q2), .second, .val (.long q3), .second] [(.int (1 : Int32))])) _
    exact k)
  obtain ⟨fs, hr, hrun, hended, hW, hsame⟩ := X0.leave (v := some (.int (1 : Int32))) (fun h => by rw [Bd.returns] at h; cases h)
  refine ⟨_, _, pre0 _ (S2 _ ?_), hrun, hended, _, _, rfl, ?_, ⟨_, rfl⟩, hW, hsame.mono (by decide) (by decide)⟩
  · exact retN X0 hx (t := .boolean) Bd.returns (by simp) (hb hby d3_55) hr
  · show QrmUn0 Z a0 kk q1 q2 q3 h0 n0 _ s₁.heap _
    rw [e0]
    exact ⟨rfl, N0, rfl⟩
theorem d3_12 : decode method_3_code 12 = .ok (.aload_n 0, 1) := by decide +kernel
theorem d3_13 : decode method_3_code 13 = .ok (.iconst 0, 1) := by decide +kernel
theorem d3_14 : decode method_3_code 14 = .ok (.laload, 1) := by decide +kernel
theorem d3_15 : decode method_3_code 15 = .ok (.lload_n 2, 1) := by decide +kernel
theorem d3_16 : decode method_3_code 16 = .ok (.lcmp, 1) := by decide +kernel
theorem d3_17 : decode method_3_code 17 = .ok (.ifCond .eq 5, 3) := by decide +kernel
def QrmUn1 (Z : State) (a0 : Addr) (kk : ClassId) (q1 : Int64) (q2 : Int64) (q3 : Int64) (h0 : Heap) (n0 : Nat) (v : Option Value) (h : Heap) (L : List Loc) : Prop := v = some (.int 1) ∧ Fr n0 L ∧ h = h0
set_option maxRecDepth 65536 in
set_option maxHeartbeats 40000000 in
theorem rmUn1 (l : Launch) (Z : State) (av0 : Array Value) (hw : ∀ d ∈ tables_1, d.before av0 Z = true) (ws : List Jvm.Cond) (a0 : Addr) (kk : ClassId) (q1 : Int64) (q2 : Int64) (q3 : Int64) (h0 : Heap) (n0 : Nat) (Z0 : n0 ≤ h0.size) (Ha : Arv Z h0 a0 kk .long (1 : Int32) [(.long q1)] (.long (0 : Int64))) :
    MetFree l (⟨"com/example/bare_refinement/barerefinement/exploration/StateSpaceHashPinLaw", "unchanged", "([JIJJJ)Z"⟩ : MethodName) (head1 (Jvm.Cond.code (⟨"com/example/bare_refinement/barerefinement/exploration/StateSpaceHashPinLaw", "unchanged", "([JIJJJ)Z"⟩ : MethodName) method_3_code 8 (some .boolean) :: ws) ({ frames := 0, cells := 0, slots := 0, locals := 0 } : Room)) (fun aU U => aU = #[(.ref a0), (.int (1 : Int32)), (.long q1), (.long q2), (.long q3)] ∧ Z.Warmed39 U.vm ∧ U.heap = h0) (fun _ _ _ _ _ => True) (fun _ U oU U' => ∃ vU LU, oU = .returned vU ∧ QrmUn1 Z a0 kk q1 q2 q3 h0 n0 vU U'.heap LU ∧ FrameEnd U oU U' LU ({ frames := 0, cells := 0, slots := 0, locals := 0 } : Room).cells ({ frames := 0, cells := 0, slots := 0, locals := 0 } : Room).slots) := by
  refine MetFree.of_bodySF (plainFor_of_name pn_StateSpaceHashPinLaw) hisR ?_
  intro p e s m args below meth c s₁ Bd hml0 hP hK
  obtain ⟨rfl, hZ, hh⟩ := hP
  have hx := Bd.exec
  have hby := Bd.bytes
  have hml : c.maxLocals = 8 := hml0
  have hown : s.vm.findClass "com/example/bare_refinement/barerefinement/exploration/StateSpaceHashPinLaw" = some m.cls := findClass_of_methodNamed Bd.named
  have hnm := (name_of_methodNamed Bd.named Bd.method).1
  have X0 : Stand p l e ({ frames := 0, cells := 0, slots := 0, locals := 0 } : Room) s m #[(.ref a0), (.int (1 : Int32)), (.long q1), (.long q2), (.long q3)] below meth c s₁ [] 0 0 := Stand.of_body Bd
  have e0 : s₁.heap = h0 := by rw [← hh, Bd.state]; rfl
  have N0 := Fr.nil n0
  have pre0 : ∀ t, Steps p.tables e below (s₁.setTop (mkF m 0 #[.val (.ref a0), .val (.int (1 : Int32)), .val (.long q1), .second, .val (.long q2), .second, .val (.long q3), .second] [])) t → Steps p.tables e below (s₁.setTop (entryFrame m #[(.ref a0), (.int (1 : Int32)), (.long q1), (.long q2), (.long q3)] 8)) t := fun t k => castTop (by first | (simp [entryFrame, mkF, argsToLocals, Value.category]; done) | rfl) k
  obtain ⟨cl1, Ar1, qk1, Sz1, Ng1, Hs1, Gs1⟩ := id Ha
  obtain ⟨cl2, Ar2, qk2, Sz2, Ng2, Hs2, Gs2⟩ := id Ha
  have hin2 : ¬ ((0 : Int32) < 0 ∨ cl2.slots.size ≤ ((0 : Int32)).toNatClampNeg) := inb_of Sz2 ⟨by decide, by decide⟩
  have hat2 : cl2.slots[((0 : Int32)).toNatClampNeg]? = some (.long q1) := Hs2.at hin2 rfl
  have S3 : ∀ t, Steps p.tables e below (s₁.setTop (mkF m 55 #[.val (.ref a0), .val (.int (1 : Int32)), .val (.long q1), .second, .val (.long q2), .second, .val (.long q3), .second] [(.int (1 : Int32))])) t → Steps p.tables e below (s₁.setTop (mkF m 0 #[.val (.ref a0), .val (.int (1 : Int32)), .val (.long q1), .second, .val (.long q2), .second, .val (.long q3), .second] [])) t := fun t k => id (by
    show Steps p.tables e below (s₁.setTop (mkF m 0 #[.val (.ref a0), .val (.int (1 : Int32)), .val (.long q1), .second, .val (.long q2), .second, .val (.long q3), .second] [])) _
    refine XS.aloadN X0.here hx rfl (hb hby d3_0) rfl rfl ?_
    show Steps p.tables e below (s₁.setTop (mkF m 1 #[.val (.ref a0), .val (.int (1 : Int32)), .val (.long q1), .second, .val (.long q2), .second, .val (.long q3), .second] [(.ref a0)])) _
    refine X0.arraylength hx (by rw [e0]; exact Ar1.1) (State.isArrayOf_alike hZ.alike Ar1.2.1) (g := (mkF m 1 #[.val (.ref a0), .val (.int (1 : Int32)), .val (.long q1), .second, .val (.long q2), .second, .val (.long q3), .second] [(.ref a0)])) rfl rfl (hb hby d3_1) _ ?_
    rw [len_of Sz1 Ng1]
    show Steps p.tables e below (s₁.setTop (mkF m 2 #[.val (.ref a0), .val (.int (1 : Int32)), .val (.long q1), .second, .val (.long q2), .second, .val (.long q3), .second] [(.int (1 : Int32))])) _
    refine XS.iloadN X0.here hx rfl (hb hby d3_2) rfl ?_
    show Steps p.tables e below (s₁.setTop (mkF m 3 #[.val (.ref a0), .val (.int (1 : Int32)), .val (.long q1), .second, .val (.long q2), .second, .val (.long q3), .second] [(.int (1 : Int32)), (.int (1 : Int32))])) _
    refine XS.icmpYes X0.here hx rfl (pc0 := 3) (pc' := 8) rfl (hb hby d3_3) rfl (XT.ii_eq_t (by decide)) (by decide) (by decide) ?_
    show Steps p.tables e below (s₁.setTop (mkF m 8 #[.val (.ref a0), .val (.int (1 : Int32)), .val (.long q1), .second, .val (.long q2), .second, .val (.long q3), .second] [])) _
    refine XS.iloadN X0.here hx rfl (hb hby d3_8) rfl ?_
    show Steps p.tables e below (s₁.setTop (mkF m 9 #[.val (.ref a0), .val (.int (1 : Int32)), .val (.long q1), .second, .val (.long q2), .second, .val (.long q3), .second] [(.int (1 : Int32))])) _
    refine XS.ifNo X0.here hx rfl (hb hby d3_9) rfl (XT.i0_le_f (by decide)) ?_
    show Steps p.tables e below (s₁.setTop (mkF m 12 #[.val (.ref a0), .val (.int (1 : Int32)), .val (.long q1), .second, .val (.long q2), .second, .val (.long q3), .second] [])) _
    refine XS.aloadN X0.here hx rfl (hb hby d3_12) rfl rfl ?_
    show Steps p.tables e below (s₁.setTop (mkF m 13 #[.val (.ref a0), .val (.int (1 : Int32)), .val (.long q1), .second, .val (.long q2), .second, .val (.long q3), .second] [(.ref a0)])) _
    refine XT.iconstV X0.here hx rfl (0 : Int32) (hb hby d3_13) (by decide) ?_
    show Steps p.tables e below (s₁.setTop (mkF m 14 #[.val (.ref a0), .val (.int (1 : Int32)), .val (.long q1), .second, .val (.long q2), .second, .val (.long q3), .second] [(.int (0 : Int32)), (.ref a0)])) _
    refine X0.laload hx (j := (0 : Int32)) (v := (.long q1)) (by rw [e0]; exact Ar2.1) (State.isArrayOf_alike hZ.alike Ar2.2.1) Ar2.2.2 hin2 hat2 (g := (mkF m 14 #[.val (.ref a0), .val (.int (1 : Int32)), .val (.long q1), .second, .val (.long q2), .second, .val (.long q3), .second] [(.int (0 : Int32)), (.ref a0)])) rfl rfl (hb hby d3_14) _ ?_
    show Steps p.tables e below (s₁.setTop (mkF m 15 #[.val (.ref a0), .val (.int (1 : Int32)), .val (.long q1), .second, .val (.long q2), .second, .val (.long q3), .second] [(.long q1)])) _
    refine XT.lloadN X0.here hx rfl (hb hby d3_15) rfl ?_
    show Steps p.tables e below (s₁.setTop (mkF m 16 #[.val (.ref a0), .val (.int (1 : Int32)), .val (.long q1), .second, .val (.long q2), .second, .val (.long q3), .second] [(.long q1), (.long q1)])) _
    refine XT.lcmp X0.here hx rfl (hb hby d3_16) rfl ?_
    show Steps p.tables e below (s₁.setTop (mkF m 17 #[.val (.ref a0), .val (.int (1 : Int32)), .val (.long q1), .second, .val (.long q2), .second, .val (.long q3), .second] [(.int (XT.cmpL q1 q1))])) _
    refine XS.ifYes X0.here hx rfl (pc0 := 17) (pc' := 22) rfl (hb hby d3_17) rfl (XT.ll_eq_t rfl) (by decide) (by decide) ?_
    show Steps p.tables e below (s₁.setTop (mkF m 22 #[.val (.ref a0), .val (.int (1 : Int32)), .val (.long q1), .second, .val (.long q2), .second, .val (.long q3), .second] [])) _
    refine XS.iloadN X0.here hx rfl (hb hby d3_22) rfl ?_
    show Steps p.tables e below (s₁.setTop (mkF m 23 #[.val (.ref a0), .val (.int (1 : Int32)), .val (.long q1), .second, .val (.long q2), .second, .val (.long q3), .second] [(.int (1 : Int32))])) _
    refine XT.iconstV X0.here hx rfl (1 : Int32) (hb hby d3_23) (by decide) ?_
    show Steps p.tables e below (s₁.setTop (mkF m 24 #[.val (.ref a0), .val (.int (1 : Int32)), .val (.long q1), .second, .val (.long q2), .second, .val (.long q3), .second] [(.int (1 : Int32)), (.int (1 : Int32))])) _
    refine XS.icmpYes X0.here hx rfl (pc0 := 24) (pc' := 38) rfl (hb hby d3_24) rfl (XT.ii_le_t (by decide)) (by decide) (by decide) ?_
    show Steps p.tables e below (s₁.setTop (mkF m 38 #[.val (.ref a0), .val (.int (1 : Int32)), .val (.long q1), .second, .val (.long q2), .second, .val (.long q3), .second] [])) _
    refine XS.iloadN X0.here hx rfl (hb hby d3_38) rfl ?_
    show Steps p.tables e below (s₁.setTop (mkF m 39 #[.val (.ref a0), .val (.int (1 : Int32)), .val (.long q1), .second, .val (.long q2), .second, .val (.long q3), .second] [(.int (1 : Int32))])) _
    refine XT.iconstV X0.here hx rfl (2 : Int32) (hb hby d3_39) (by decide) ?_
    show Steps p.tables e below (s₁.setTop (mkF m 40 #[.val (.ref a0), .val (.int (1 : Int32)), .val (.long q1), .second, .val (.long q2), .second, .val (.long q3), .second] [(.int (2 : Int32)), (.int (1 : Int32))])) _
    refine XS.icmpYes X0.here hx rfl (pc0 := 40) (pc' := 54) rfl (hb hby d3_40) rfl (XT.ii_le_t (by decide)) (by decide) (by decide) ?_
    show Steps p.tables e below (s₁.setTop (mkF m 54 #[.val (.ref a0), .val (.int (1 : Int32)), .val (.long q1), .second, .val (.long q2), .second, .val (.long q3), .second] [])) _
    refine XT.iconstV X0.here hx rfl (1 : Int32) (hb hby d3_54) (by decide) ?_
    show Steps p.tables e below (s₁.setTop (mkF m 55 #[.val (.ref a0), .val (.int (1 : Int32)), .val (.long q1), .second, .val (.long q2), .second, .val (.long q3), .second] [(.int (1 : Int32))])) _
    exact k)
  obtain ⟨fs, hr, hrun, hended, hW, hsame⟩ := X0.leave (v := some (.int (1 : Int32))) (fun h => by rw [Bd.returns] at h; cases h)
  refine ⟨_, _, pre0 _ (S3 _ ?_), hrun, hended, _, _, rfl, ?_, ⟨_, rfl⟩, hW, hsame.mono (by decide) (by decide)⟩
  · exact retN X0 hx (t := .boolean) Bd.returns (by simp) (hb hby d3_55) hr
  · show QrmUn1 Z a0 kk q1 q2 q3 h0 n0 _ s₁.heap _
    rw [e0]
    exact ⟨rfl, N0, rfl⟩
theorem d3_27 : decode method_3_code 27 = .ok (.aload_n 0, 1) := by decide +kernel
theorem d3_28 : decode method_3_code 28 = .ok (.iconst 1, 1) := by decide +kernel
theorem d3_29 : decode method_3_code 29 = .ok (.laload, 1) := by decide +kernel
theorem d3_30 : decode method_3_code 30 = .ok (.lload 4, 2) := by decide +kernel
theorem d3_32 : decode method_3_code 32 = .ok (.lcmp, 1) := by decide +kernel
theorem d3_33 : decode method_3_code 33 = .ok (.ifCond .eq 5, 3) := by decide +kernel
def QrmUn2 (Z : State) (a0 : Addr) (kk : ClassId) (q1 : Int64) (q2 : Int64) (q3 : Int64) (h0 : Heap) (n0 : Nat) (v : Option Value) (h : Heap) (L : List Loc) : Prop := v = some (.int 1) ∧ Fr n0 L ∧ h = h0
set_option maxRecDepth 65536 in
set_option maxHeartbeats 40000000 in
theorem rmUn2 (l : Launch) (Z : State) (av0 : Array Value) (hw : ∀ d ∈ tables_1, d.before av0 Z = true) (ws : List Jvm.Cond) (a0 : Addr) (kk : ClassId) (q1 : Int64) (q2 : Int64) (q3 : Int64) (h0 : Heap) (n0 : Nat) (Z0 : n0 ≤ h0.size) (Ha : Arv Z h0 a0 kk .long (2 : Int32) [(.long q1), (.long q2)] (.long (0 : Int64))) :
    MetFree l (⟨"com/example/bare_refinement/barerefinement/exploration/StateSpaceHashPinLaw", "unchanged", "([JIJJJ)Z"⟩ : MethodName) (head1 (Jvm.Cond.code (⟨"com/example/bare_refinement/barerefinement/exploration/StateSpaceHashPinLaw", "unchanged", "([JIJJJ)Z"⟩ : MethodName) method_3_code 8 (some .boolean) :: ws) ({ frames := 0, cells := 0, slots := 0, locals := 0 } : Room)) (fun aU U => aU = #[(.ref a0), (.int (2 : Int32)), (.long q1), (.long q2), (.long q3)] ∧ Z.Warmed39 U.vm ∧ U.heap = h0) (fun _ _ _ _ _ => True) (fun _ U oU U' => ∃ vU LU, oU = .returned vU ∧ QrmUn2 Z a0 kk q1 q2 q3 h0 n0 vU U'.heap LU ∧ FrameEnd U oU U' LU ({ frames := 0, cells := 0, slots := 0, locals := 0 } : Room).cells ({ frames := 0, cells := 0, slots := 0, locals := 0 } : Room).slots) := by
  refine MetFree.of_bodySF (plainFor_of_name pn_StateSpaceHashPinLaw) hisR ?_
  intro p e s m args below meth c s₁ Bd hml0 hP hK
  obtain ⟨rfl, hZ, hh⟩ := hP
  have hx := Bd.exec
  have hby := Bd.bytes
  have hml : c.maxLocals = 8 := hml0
  have hown : s.vm.findClass "com/example/bare_refinement/barerefinement/exploration/StateSpaceHashPinLaw" = some m.cls := findClass_of_methodNamed Bd.named
  have hnm := (name_of_methodNamed Bd.named Bd.method).1
  have X0 : Stand p l e ({ frames := 0, cells := 0, slots := 0, locals := 0 } : Room) s m #[(.ref a0), (.int (2 : Int32)), (.long q1), (.long q2), (.long q3)] below meth c s₁ [] 0 0 := Stand.of_body Bd
  have e0 : s₁.heap = h0 := by rw [← hh, Bd.state]; rfl
  have N0 := Fr.nil n0
  have pre0 : ∀ t, Steps p.tables e below (s₁.setTop (mkF m 0 #[.val (.ref a0), .val (.int (2 : Int32)), .val (.long q1), .second, .val (.long q2), .second, .val (.long q3), .second] [])) t → Steps p.tables e below (s₁.setTop (entryFrame m #[(.ref a0), (.int (2 : Int32)), (.long q1), (.long q2), (.long q3)] 8)) t := fun t k => castTop (by first | (simp [entryFrame, mkF, argsToLocals, Value.category]; done) | rfl) k
  obtain ⟨cl1, Ar1, qk1, Sz1, Ng1, Hs1, Gs1⟩ := id Ha
  obtain ⟨cl2, Ar2, qk2, Sz2, Ng2, Hs2, Gs2⟩ := id Ha
  have hin2 : ¬ ((0 : Int32) < 0 ∨ cl2.slots.size ≤ ((0 : Int32)).toNatClampNeg) := inb_of Sz2 ⟨by decide, by decide⟩
  have hat2 : cl2.slots[((0 : Int32)).toNatClampNeg]? = some (.long q1) := Hs2.at hin2 rfl
  obtain ⟨cl3, Ar3, qk3, Sz3, Ng3, Hs3, Gs3⟩ := id Ha
  have hin3 : ¬ ((1 : Int32) < 0 ∨ cl3.slots.size ≤ ((1 : Int32)).toNatClampNeg) := inb_of Sz3 ⟨by decide, by decide⟩
  have hat3 : cl3.slots[((1 : Int32)).toNatClampNeg]? = some (.long q2) := Hs3.at hin3 rfl
  have S4 : ∀ t, Steps p.tables e below (s₁.setTop (mkF m 55 #[.val (.ref a0), .val (.int (2 : Int32)), .val (.long q1), .second, .val (.long q2), .second, .val (.long q3), .second] [(.int (1 : Int32))])) t → Steps p.tables e below (s₁.setTop (mkF m 0 #[.val (.ref a0), .val (.int (2 : Int32)), .val (.long q1), .second, .val (.long q2), .second, .val (.long q3), .second] [])) t := fun t k => id (by
    show Steps p.tables e below (s₁.setTop (mkF m 0 #[.val (.ref a0), .val (.int (2 : Int32)), .val (.long q1), .second, .val (.long q2), .second, .val (.long q3), .second] [])) _
    refine XS.aloadN X0.here hx rfl (hb hby d3_0) rfl rfl ?_
    show Steps p.tables e below (s₁.setTop (mkF m 1 #[.val (.ref a0), .val (.int (2 : Int32)), .val (.long q1), .second, .val (.long q2), .second, .val (.long q3), .second] [(.ref a0)])) _
    refine X0.arraylength hx (by rw [e0]; exact Ar1.1) (State.isArrayOf_alike hZ.alike Ar1.2.1) (g := (mkF m 1 #[.val (.ref a0), .val (.int (2 : Int32)), .val (.long q1), .second, .val (.long q2), .second, .val (.long q3), .second] [(.ref a0)])) rfl rfl (hb hby d3_1) _ ?_
    rw [len_of Sz1 Ng1]
    show Steps p.tables e below (s₁.setTop (mkF m 2 #[.val (.ref a0), .val (.int (2 : Int32)), .val (.long q1), .second, .val (.long q2), .second, .val (.long q3), .second] [(.int (2 : Int32))])) _
    refine XS.iloadN X0.here hx rfl (hb hby d3_2) rfl ?_
    show Steps p.tables e below (s₁.setTop (mkF m 3 #[.val (.ref a0), .val (.int (2 : Int32)), .val (.long q1), .second, .val (.long q2), .second, .val (.long q3), .second] [(.int (2 : Int32)), (.int (2 : Int32))])) _
    refine XS.icmpYes X0.here hx rfl (pc0 := 3) (pc' := 8) rfl (hb hby d3_3) rfl (XT.ii_eq_t (by decide)) (by decide) (by decide) ?_
    show Steps p.tables e below (s₁.setTop (mkF m 8 #[.val (.ref a0), .val (.int (2 : Int32)), .val (.long q1), .second, .val (.long q2), .second, .val (.long q3), .second] [])) _
    refine XS.iloadN X0.here hx rfl (hb hby d3_8) rfl ?_
    show Steps p.tables e below (s₁.setTop (mkF m 9 #[.val (.ref a0), .val (.int (2 : Int32)), .val (.long q1), .second, .val (.long q2), .second, .val (.long q3), .second] [(.int (2 : Int32))])) _
    refine XS.ifNo X0.here hx rfl (hb hby d3_9) rfl (XT.i0_le_f (by decide)) ?_
    show Steps p.tables e below (s₁.setTop (mkF m 12 #[.val (.ref a0), .val (.int (2 : Int32)), .val (.long q1), .second, .val (.long q2), .second, .val (.long q3), .second] [])) _
    refine XS.aloadN X0.here hx rfl (hb hby d3_12) rfl rfl ?_
    show Steps p.tables e below (s₁.setTop (mkF m 13 #[.val (.ref a0), .val (.int (2 : Int32)), .val (.long q1), .second, .val (.long q2), .second, .val (.long q3), .second] [(.ref a0)])) _
    refine XT.iconstV X0.here hx rfl (0 : Int32) (hb hby d3_13) (by decide) ?_
    show Steps p.tables e below (s₁.setTop (mkF m 14 #[.val (.ref a0), .val (.int (2 : Int32)), .val (.long q1), .second, .val (.long q2), .second, .val (.long q3), .second] [(.int (0 : Int32)), (.ref a0)])) _
    refine X0.laload hx (j := (0 : Int32)) (v := (.long q1)) (by rw [e0]; exact Ar2.1) (State.isArrayOf_alike hZ.alike Ar2.2.1) Ar2.2.2 hin2 hat2 (g := (mkF m 14 #[.val (.ref a0), .val (.int (2 : Int32)), .val (.long q1), .second, .val (.long q2), .second, .val (.long q3), .second] [(.int (0 : Int32)), (.ref a0)])) rfl rfl (hb hby d3_14) _ ?_
    show Steps p.tables e below (s₁.setTop (mkF m 15 #[.val (.ref a0), .val (.int (2 : Int32)), .val (.long q1), .second, .val (.long q2), .second, .val (.long q3), .second] [(.long q1)])) _
    refine XT.lloadN X0.here hx rfl (hb hby d3_15) rfl ?_
    show Steps p.tables e below (s₁.setTop (mkF m 16 #[.val (.ref a0), .val (.int (2 : Int32)), .val (.long q1), .second, .val (.long q2), .second, .val (.long q3), .second] [(.long q1), (.long q1)])) _
    refine XT.lcmp X0.here hx rfl (hb hby d3_16) rfl ?_
    show Steps p.tables e below (s₁.setTop (mkF m 17 #[.val (.ref a0), .val (.int (2 : Int32)), .val (.long q1), .second, .val (.long q2), .second, .val (.long q3), .second] [(.int (XT.cmpL q1 q1))])) _
    refine XS.ifYes X0.here hx rfl (pc0 := 17) (pc' := 22) rfl (hb hby d3_17) rfl (XT.ll_eq_t rfl) (by decide) (by decide) ?_
    show Steps p.tables e below (s₁.setTop (mkF m 22 #[.val (.ref a0), .val (.int (2 : Int32)), .val (.long q1), .second, .val (.long q2), .second, .val (.long q3), .second] [])) _
    refine XS.iloadN X0.here hx rfl (hb hby d3_22) rfl ?_
    show Steps p.tables e below (s₁.setTop (mkF m 23 #[.val (.ref a0), .val (.int (2 : Int32)), .val (.long q1), .second, .val (.long q2), .second, .val (.long q3), .second] [(.int (2 : Int32))])) _
    refine XT.iconstV X0.here hx rfl (1 : Int32) (hb hby d3_23) (by decide) ?_
    show Steps p.tables e below (s₁.setTop (mkF m 24 #[.val (.ref a0), .val (.int (2 : Int32)), .val (.long q1), .second, .val (.long q2), .second, .val (.long q3), .second] [(.int (1 : Int32)), (.int (2 : Int32))])) _
    refine XS.icmpNo X0.here hx rfl (hb hby d3_24) rfl (XT.ii_le_f (by decide)) ?_
    show Steps p.tables e below (s₁.setTop (mkF m 27 #[.val (.ref a0), .val (.int (2 : Int32)), .val (.long q1), .second, .val (.long q2), .second, .val (.long q3), .second] [])) _
    refine XS.aloadN X0.here hx rfl (hb hby d3_27) rfl rfl ?_
    show Steps p.tables e below (s₁.setTop (mkF m 28 #[.val (.ref a0), .val (.int (2 : Int32)), .val (.long q1), .second, .val (.long q2), .second, .val (.long q3), .second] [(.ref a0)])) _
    refine XT.iconstV X0.here hx rfl (1 : Int32) (hb hby d3_28) (by decide) ?_
    show Steps p.tables e below (s₁.setTop (mkF m 29 #[.val (.ref a0), .val (.int (2 : Int32)), .val (.long q1), .second, .val (.long q2), .second, .val (.long q3), .second] [(.int (1 : Int32)), (.ref a0)])) _
    refine X0.laload hx (j := (1 : Int32)) (v := (.long q2)) (by rw [e0]; exact Ar3.1) (State.isArrayOf_alike hZ.alike Ar3.2.1) Ar3.2.2 hin3 hat3 (g := (mkF m 29 #[.val (.ref a0), .val (.int (2 : Int32)), .val (.long q1), .second, .val (.long q2), .second, .val (.long q3), .second] [(.int (1 : Int32)), (.ref a0)])) rfl rfl (hb hby d3_29) _ ?_
    show Steps p.tables e below (s₁.setTop (mkF m 30 #[.val (.ref a0), .val (.int (2 : Int32)), .val (.long q1), .second, .val (.long q2), .second, .val (.long q3), .second] [(.long q2)])) _
    refine XT.lload X0.here hx rfl (hb hby d3_30) rfl ?_
    show Steps p.tables e below (s₁.setTop (mkF m 32 #[.val (.ref a0), .val (.int (2 : Int32)), .val (.long q1), .second, .val (.long q2), .second, .val (.long q3), .second] [(.long q2), (.long q2)])) _
    refine XT.lcmp X0.here hx rfl (hb hby d3_32) rfl ?_
    show Steps p.tables e below (s₁.setTop (mkF m 33 #[.val (.ref a0), .val (.int (2 : Int32)), .val (.long q1), .second, .val (.long q2), .second, .val (.long q3), .second] [(.int (XT.cmpL q2 q2))])) _
    refine XS.ifYes X0.here hx rfl (pc0 := 33) (pc' := 38) rfl (hb hby d3_33) rfl (XT.ll_eq_t rfl) (by decide) (by decide) ?_
    show Steps p.tables e below (s₁.setTop (mkF m 38 #[.val (.ref a0), .val (.int (2 : Int32)), .val (.long q1), .second, .val (.long q2), .second, .val (.long q3), .second] [])) _
    refine XS.iloadN X0.here hx rfl (hb hby d3_38) rfl ?_
    show Steps p.tables e below (s₁.setTop (mkF m 39 #[.val (.ref a0), .val (.int (2 : Int32)), .val (.long q1), .second, .val (.long q2), .second, .val (.long q3), .second] [(.int (2 : Int32))])) _
    refine XT.iconstV X0.here hx rfl (2 : Int32) (hb hby d3_39) (by decide) ?_
    show Steps p.tables e below (s₁.setTop (mkF m 40 #[.val (.ref a0), .val (.int (2 : Int32)), .val (.long q1), .second, .val (.long q2), .second, .val (.long q3), .second] [(.int (2 : Int32)), (.int (2 : Int32))])) _
    refine XS.icmpYes X0.here hx rfl (pc0 := 40) (pc' := 54) rfl (hb hby d3_40) rfl (XT.ii_le_t (by decide)) (by decide) (by decide) ?_
    show Steps p.tables e below (s₁.setTop (mkF m 54 #[.val (.ref a0), .val (.int (2 : Int32)), .val (.long q1), .second, .val (.long q2), .second, .val (.long q3), .second] [])) _
    refine XT.iconstV X0.here hx rfl (1 : Int32) (hb hby d3_54) (by decide) ?_
    show Steps p.tables e below (s₁.setTop (mkF m 55 #[.val (.ref a0), .val (.int (2 : Int32)), .val (.long q1), .second, .val (.long q2), .second, .val (.long q3), .second] [(.int (1 : Int32))])) _
    exact k)
  obtain ⟨fs, hr, hrun, hended, hW, hsame⟩ := X0.leave (v := some (.int (1 : Int32))) (fun h => by rw [Bd.returns] at h; cases h)
  refine ⟨_, _, pre0 _ (S4 _ ?_), hrun, hended, _, _, rfl, ?_, ⟨_, rfl⟩, hW, hsame.mono (by decide) (by decide)⟩
  · exact retN X0 hx (t := .boolean) Bd.returns (by simp) (hb hby d3_55) hr
  · show QrmUn2 Z a0 kk q1 q2 q3 h0 n0 _ s₁.heap _
    rw [e0]
    exact ⟨rfl, N0, rfl⟩
theorem d3_43 : decode method_3_code 43 = .ok (.aload_n 0, 1) := by decide +kernel
theorem d3_44 : decode method_3_code 44 = .ok (.iconst 2, 1) := by decide +kernel
theorem d3_45 : decode method_3_code 45 = .ok (.laload, 1) := by decide +kernel
theorem d3_46 : decode method_3_code 46 = .ok (.lload 6, 2) := by decide +kernel
theorem d3_48 : decode method_3_code 48 = .ok (.lcmp, 1) := by decide +kernel
theorem d3_49 : decode method_3_code 49 = .ok (.ifCond .eq 5, 3) := by decide +kernel
def QrmUn3 (Z : State) (a0 : Addr) (kk : ClassId) (q1 : Int64) (q2 : Int64) (q3 : Int64) (h0 : Heap) (n0 : Nat) (v : Option Value) (h : Heap) (L : List Loc) : Prop := v = some (.int 1) ∧ Fr n0 L ∧ h = h0
set_option maxRecDepth 65536 in
set_option maxHeartbeats 40000000 in
theorem rmUn3 (l : Launch) (Z : State) (av0 : Array Value) (hw : ∀ d ∈ tables_1, d.before av0 Z = true) (ws : List Jvm.Cond) (a0 : Addr) (kk : ClassId) (q1 : Int64) (q2 : Int64) (q3 : Int64) (h0 : Heap) (n0 : Nat) (Z0 : n0 ≤ h0.size) (Ha : Arv Z h0 a0 kk .long (3 : Int32) [(.long q1), (.long q2), (.long q3)] (.long (0 : Int64))) :
    MetFree l (⟨"com/example/bare_refinement/barerefinement/exploration/StateSpaceHashPinLaw", "unchanged", "([JIJJJ)Z"⟩ : MethodName) (head1 (Jvm.Cond.code (⟨"com/example/bare_refinement/barerefinement/exploration/StateSpaceHashPinLaw", "unchanged", "([JIJJJ)Z"⟩ : MethodName) method_3_code 8 (some .boolean) :: ws) ({ frames := 0, cells := 0, slots := 0, locals := 0 } : Room)) (fun aU U => aU = #[(.ref a0), (.int (3 : Int32)), (.long q1), (.long q2), (.long q3)] ∧ Z.Warmed39 U.vm ∧ U.heap = h0) (fun _ _ _ _ _ => True) (fun _ U oU U' => ∃ vU LU, oU = .returned vU ∧ QrmUn3 Z a0 kk q1 q2 q3 h0 n0 vU U'.heap LU ∧ FrameEnd U oU U' LU ({ frames := 0, cells := 0, slots := 0, locals := 0 } : Room).cells ({ frames := 0, cells := 0, slots := 0, locals := 0 } : Room).slots) := by
  refine MetFree.of_bodySF (plainFor_of_name pn_StateSpaceHashPinLaw) hisR ?_
  intro p e s m args below meth c s₁ Bd hml0 hP hK
  obtain ⟨rfl, hZ, hh⟩ := hP
  have hx := Bd.exec
  have hby := Bd.bytes
  have hml : c.maxLocals = 8 := hml0
  have hown : s.vm.findClass "com/example/bare_refinement/barerefinement/exploration/StateSpaceHashPinLaw" = some m.cls := findClass_of_methodNamed Bd.named
  have hnm := (name_of_methodNamed Bd.named Bd.method).1
  have X0 : Stand p l e ({ frames := 0, cells := 0, slots := 0, locals := 0 } : Room) s m #[(.ref a0), (.int (3 : Int32)), (.long q1), (.long q2), (.long q3)] below meth c s₁ [] 0 0 := Stand.of_body Bd
  have e0 : s₁.heap = h0 := by rw [← hh, Bd.state]; rfl
  have N0 := Fr.nil n0
  have pre0 : ∀ t, Steps p.tables e below (s₁.setTop (mkF m 0 #[.val (.ref a0), .val (.int (3 : Int32)), .val (.long q1), .second, .val (.long q2), .second, .val (.long q3), .second] [])) t → Steps p.tables e below (s₁.setTop (entryFrame m #[(.ref a0), (.int (3 : Int32)), (.long q1), (.long q2), (.long q3)] 8)) t := fun t k => castTop (by first | (simp [entryFrame, mkF, argsToLocals, Value.category]; done) | rfl) k
  obtain ⟨cl1, Ar1, qk1, Sz1, Ng1, Hs1, Gs1⟩ := id Ha
  obtain ⟨cl2, Ar2, qk2, Sz2, Ng2, Hs2, Gs2⟩ := id Ha
  have hin2 : ¬ ((0 : Int32) < 0 ∨ cl2.slots.size ≤ ((0 : Int32)).toNatClampNeg) := inb_of Sz2 ⟨by decide, by decide⟩
  have hat2 : cl2.slots[((0 : Int32)).toNatClampNeg]? = some (.long q1) := Hs2.at hin2 rfl
  obtain ⟨cl3, Ar3, qk3, Sz3, Ng3, Hs3, Gs3⟩ := id Ha
  have hin3 : ¬ ((1 : Int32) < 0 ∨ cl3.slots.size ≤ ((1 : Int32)).toNatClampNeg) := inb_of Sz3 ⟨by decide, by decide⟩
  have hat3 : cl3.slots[((1 : Int32)).toNatClampNeg]? = some (.long q2) := Hs3.at hin3 rfl
  obtain ⟨cl4, Ar4, qk4, Sz4, Ng4, Hs4, Gs4⟩ := id Ha
  have hin4 : ¬ ((2 : Int32) < 0 ∨ cl4.slots.size ≤ ((2 : Int32)).toNatClampNeg) := inb_of Sz4 ⟨by decide, by decide⟩
  have hat4 : cl4.slots[((2 : Int32)).toNatClampNeg]? = some (.long q3) := Hs4.at hin4 rfl
  have S5 : ∀ t, Steps p.tables e below (s₁.setTop (mkF m 55 #[.val (.ref a0), .val (.int (3 : Int32)), .val (.long q1), .second, .val (.long q2), .second, .val (.long q3), .second] [(.int (1 : Int32))])) t → Steps p.tables e below (s₁.setTop (mkF m 0 #[.val (.ref a0), .val (.int (3 : Int32)), .val (.long q1), .second, .val (.long q2), .second, .val (.long q3), .second] [])) t := fun t k => id (by
    show Steps p.tables e below (s₁.setTop (mkF m 0 #[.val (.ref a0), .val (.int (3 : Int32)), .val (.long q1), .second, .val (.long q2), .second, .val (.long q3), .second] [])) _
    refine XS.aloadN X0.here hx rfl (hb hby d3_0) rfl rfl ?_
    show Steps p.tables e below (s₁.setTop (mkF m 1 #[.val (.ref a0), .val (.int (3 : Int32)), .val (.long q1), .second, .val (.long q2), .second, .val (.long q3), .second] [(.ref a0)])) _
    refine X0.arraylength hx (by rw [e0]; exact Ar1.1) (State.isArrayOf_alike hZ.alike Ar1.2.1) (g := (mkF m 1 #[.val (.ref a0), .val (.int (3 : Int32)), .val (.long q1), .second, .val (.long q2), .second, .val (.long q3), .second] [(.ref a0)])) rfl rfl (hb hby d3_1) _ ?_
    rw [len_of Sz1 Ng1]
    show Steps p.tables e below (s₁.setTop (mkF m 2 #[.val (.ref a0), .val (.int (3 : Int32)), .val (.long q1), .second, .val (.long q2), .second, .val (.long q3), .second] [(.int (3 : Int32))])) _
    refine XS.iloadN X0.here hx rfl (hb hby d3_2) rfl ?_
    show Steps p.tables e below (s₁.setTop (mkF m 3 #[.val (.ref a0), .val (.int (3 : Int32)), .val (.long q1), .second, .val (.long q2), .second, .val (.long q3), .second] [(.int (3 : Int32)), (.int (3 : Int32))])) _
    refine XS.icmpYes X0.here hx rfl (pc0 := 3) (pc' := 8) rfl (hb hby d3_3) rfl (XT.ii_eq_t (by decide)) (by decide) (by decide) ?_
    show Steps p.tables e below (s₁.setTop (mkF m 8 #[.val (.ref a0), .val (.int (3 : Int32)), .val (.long q1), .second, .val (.long q2), .second, .val (.long q3), .second] [])) _
    refine XS.iloadN X0.here hx rfl (hb hby d3_8) rfl ?_
    show Steps p.tables e below (s₁.setTop (mkF m 9 #[.val (.ref a0), .val (.int (3 : Int32)), .val (.long q1), .second, .val (.long q2), .second, .val (.long q3), .second] [(.int (3 : Int32))])) _
    refine XS.ifNo X0.here hx rfl (hb hby d3_9) rfl (XT.i0_le_f (by decide)) ?_
    show Steps p.tables e below (s₁.setTop (mkF m 12 #[.val (.ref a0), .val (.int (3 : Int32)), .val (.long q1), .second, .val (.long q2), .second, .val (.long q3), .second] [])) _
    refine XS.aloadN X0.here hx rfl (hb hby d3_12) rfl rfl ?_
    show Steps p.tables e below (s₁.setTop (mkF m 13 #[.val (.ref a0), .val (.int (3 : Int32)), .val (.long q1), .second, .val (.long q2), .second, .val (.long q3), .second] [(.ref a0)])) _
    refine XT.iconstV X0.here hx rfl (0 : Int32) (hb hby d3_13) (by decide) ?_
    show Steps p.tables e below (s₁.setTop (mkF m 14 #[.val (.ref a0), .val (.int (3 : Int32)), .val (.long q1), .second, .val (.long q2), .second, .val (.long q3), .second] [(.int (0 : Int32)), (.ref a0)])) _
    refine X0.laload hx (j := (0 : Int32)) (v := (.long q1)) (by rw [e0]; exact Ar2.1) (State.isArrayOf_alike hZ.alike Ar2.2.1) Ar2.2.2 hin2 hat2 (g := (mkF m 14 #[.val (.ref a0), .val (.int (3 : Int32)), .val (.long q1), .second, .val (.long q2), .second, .val (.long q3), .second] [(.int (0 : Int32)), (.ref a0)])) rfl rfl (hb hby d3_14) _ ?_
    show Steps p.tables e below (s₁.setTop (mkF m 15 #[.val (.ref a0), .val (.int (3 : Int32)), .val (.long q1), .second, .val (.long q2), .second, .val (.long q3), .second] [(.long q1)])) _
    refine XT.lloadN X0.here hx rfl (hb hby d3_15) rfl ?_
    show Steps p.tables e below (s₁.setTop (mkF m 16 #[.val (.ref a0), .val (.int (3 : Int32)), .val (.long q1), .second, .val (.long q2), .second, .val (.long q3), .second] [(.long q1), (.long q1)])) _
    refine XT.lcmp X0.here hx rfl (hb hby d3_16) rfl ?_
    show Steps p.tables e below (s₁.setTop (mkF m 17 #[.val (.ref a0), .val (.int (3 : Int32)), .val (.long q1), .second, .val (.long q2), .second, .val (.long q3), .second] [(.int (XT.cmpL q1 q1))])) _
    refine XS.ifYes X0.here hx rfl (pc0 := 17) (pc' := 22) rfl (hb hby d3_17) rfl (XT.ll_eq_t rfl) (by decide) (by decide) ?_
    show Steps p.tables e below (s₁.setTop (mkF m 22 #[.val (.ref a0), .val (.int (3 : Int32)), .val (.long q1), .second, .val (.long q2), .second, .val (.long q3), .second] [])) _
    refine XS.iloadN X0.here hx rfl (hb hby d3_22) rfl ?_
    show Steps p.tables e below (s₁.setTop (mkF m 23 #[.val (.ref a0), .val (.int (3 : Int32)), .val (.long q1), .second, .val (.long q2), .second, .val (.long q3), .second] [(.int (3 : Int32))])) _
    refine XT.iconstV X0.here hx rfl (1 : Int32) (hb hby d3_23) (by decide) ?_
    show Steps p.tables e below (s₁.setTop (mkF m 24 #[.val (.ref a0), .val (.int (3 : Int32)), .val (.long q1), .second, .val (.long q2), .second, .val (.long q3), .second] [(.int (1 : Int32)), (.int (3 : Int32))])) _
    refine XS.icmpNo X0.here hx rfl (hb hby d3_24) rfl (XT.ii_le_f (by decide)) ?_
    show Steps p.tables e below (s₁.setTop (mkF m 27 #[.val (.ref a0), .val (.int (3 : Int32)), .val (.long q1), .second, .val (.long q2), .second, .val (.long q3), .second] [])) _
    refine XS.aloadN X0.here hx rfl (hb hby d3_27) rfl rfl ?_
    show Steps p.tables e below (s₁.setTop (mkF m 28 #[.val (.ref a0), .val (.int (3 : Int32)), .val (.long q1), .second, .val (.long q2), .second, .val (.long q3), .second] [(.ref a0)])) _
    refine XT.iconstV X0.here hx rfl (1 : Int32) (hb hby d3_28) (by decide) ?_
    show Steps p.tables e below (s₁.setTop (mkF m 29 #[.val (.ref a0), .val (.int (3 : Int32)), .val (.long q1), .second, .val (.long q2), .second, .val (.long q3), .second] [(.int (1 : Int32)), (.ref a0)])) _
    refine X0.laload hx (j := (1 : Int32)) (v := (.long q2)) (by rw [e0]; exact Ar3.1) (State.isArrayOf_alike hZ.alike Ar3.2.1) Ar3.2.2 hin3 hat3 (g := (mkF m 29 #[.val (.ref a0), .val (.int (3 : Int32)), .val (.long q1), .second, .val (.long q2), .second, .val (.long q3), .second] [(.int (1 : Int32)), (.ref a0)])) rfl rfl (hb hby d3_29) _ ?_
    show Steps p.tables e below (s₁.setTop (mkF m 30 #[.val (.ref a0), .val (.int (3 : Int32)), .val (.long q1), .second, .val (.long q2), .second, .val (.long q3), .second] [(.long q2)])) _
    refine XT.lload X0.here hx rfl (hb hby d3_30) rfl ?_
    show Steps p.tables e below (s₁.setTop (mkF m 32 #[.val (.ref a0), .val (.int (3 : Int32)), .val (.long q1), .second, .val (.long q2), .second, .val (.long q3), .second] [(.long q2), (.long q2)])) _
    refine XT.lcmp X0.here hx rfl (hb hby d3_32) rfl ?_
    show Steps p.tables e below (s₁.setTop (mkF m 33 #[.val (.ref a0), .val (.int (3 : Int32)), .val (.long q1), .second, .val (.long q2), .second, .val (.long q3), .second] [(.int (XT.cmpL q2 q2))])) _
    refine XS.ifYes X0.here hx rfl (pc0 := 33) (pc' := 38) rfl (hb hby d3_33) rfl (XT.ll_eq_t rfl) (by decide) (by decide) ?_
    show Steps p.tables e below (s₁.setTop (mkF m 38 #[.val (.ref a0), .val (.int (3 : Int32)), .val (.long q1), .second, .val (.long q2), .second, .val (.long q3), .second] [])) _
    refine XS.iloadN X0.here hx rfl (hb hby d3_38) rfl ?_
    show Steps p.tables e below (s₁.setTop (mkF m 39 #[.val (.ref a0), .val (.int (3 : Int32)), .val (.long q1), .second, .val (.long q2), .second, .val (.long q3), .second] [(.int (3 : Int32))])) _
    refine XT.iconstV X0.here hx rfl (2 : Int32) (hb hby d3_39) (by decide) ?_
    show Steps p.tables e below (s₁.setTop (mkF m 40 #[.val (.ref a0), .val (.int (3 : Int32)), .val (.long q1), .second, .val (.long q2), .second, .val (.long q3), .second] [(.int (2 : Int32)), (.int (3 : Int32))])) _
    refine XS.icmpNo X0.here hx rfl (hb hby d3_40) rfl (XT.ii_le_f (by decide)) ?_
    show Steps p.tables e below (s₁.setTop (mkF m 43 #[.val (.ref a0), .val (.int (3 : Int32)), .val (.long q1), .second, .val (.long q2), .second, .val (.long q3), .second] [])) _
    refine XS.aloadN X0.here hx rfl (hb hby d3_43) rfl rfl ?_
    show Steps p.tables e below (s₁.setTop (mkF m 44 #[.val (.ref a0), .val (.int (3 : Int32)), .val (.long q1), .second, .val (.long q2), .second, .val (.long q3), .second] [(.ref a0)])) _
    refine XT.iconstV X0.here hx rfl (2 : Int32) (hb hby d3_44) (by decide) ?_
    show Steps p.tables e below (s₁.setTop (mkF m 45 #[.val (.ref a0), .val (.int (3 : Int32)), .val (.long q1), .second, .val (.long q2), .second, .val (.long q3), .second] [(.int (2 : Int32)), (.ref a0)])) _
    refine X0.laload hx (j := (2 : Int32)) (v := (.long q3)) (by rw [e0]; exact Ar4.1) (State.isArrayOf_alike hZ.alike Ar4.2.1) Ar4.2.2 hin4 hat4 (g := (mkF m 45 #[.val (.ref a0), .val (.int (3 : Int32)), .val (.long q1), .second, .val (.long q2), .second, .val (.long q3), .second] [(.int (2 : Int32)), (.ref a0)])) rfl rfl (hb hby d3_45) _ ?_
    show Steps p.tables e below (s₁.setTop (mkF m 46 #[.val (.ref a0), .val (.int (3 : Int32)), .val (.long q1), .second, .val (.long q2), .second, .val (.long q3), .second] [(.long q3)])) _
    refine XT.lload X0.here hx rfl (hb hby d3_46) rfl ?_
    show Steps p.tables e below (s₁.setTop (mkF m 48 #[.val (.ref a0), .val (.int (3 : Int32)), .val (.long q1), .second, .val (.long q2), .second, .val (.long q3), .second] [(.long q3), (.long q3)])) _
    refine XT.lcmp X0.here hx rfl (hb hby d3_48) rfl ?_
    show Steps p.tables e below (s₁.setTop (mkF m 49 #[.val (.ref a0), .val (.int (3 : Int32)), .val (.long q1), .second, .val (.long q2), .second, .val (.long q3), .second] [(.int (XT.cmpL q3 q3))])) _
    refine XS.ifYes X0.here hx rfl (pc0 := 49) (pc' := 54) rfl (hb hby d3_49) rfl (XT.ll_eq_t rfl) (by decide) (by decide) ?_
    show Steps p.tables e below (s₁.setTop (mkF m 54 #[.val (.ref a0), .val (.int (3 : Int32)), .val (.long q1), .second, .val (.long q2), .second, .val (.long q3), .second] [])) _
    refine XT.iconstV X0.here hx rfl (1 : Int32) (hb hby d3_54) (by decide) ?_
    show Steps p.tables e below (s₁.setTop (mkF m 55 #[.val (.ref a0), .val (.int (3 : Int32)), .val (.long q1), .second, .val (.long q2), .second, .val (.long q3), .second] [(.int (1 : Int32))])) _
    exact k)
  obtain ⟨fs, hr, hrun, hended, hW, hsame⟩ := X0.leave (v := some (.int (1 : Int32))) (fun h => by rw [Bd.returns] at h; cases h)
  refine ⟨_, _, pre0 _ (S5 _ ?_), hrun, hended, _, _, rfl, ?_, ⟨_, rfl⟩, hW, hsame.mono (by decide) (by decide)⟩
  · exact retN X0 hx (t := .boolean) Bd.returns (by simp) (hb hby d3_55) hr
  · show QrmUn3 Z a0 kk q1 q2 q3 h0 n0 _ s₁.heap _
    rw [e0]
    exact ⟨rfl, N0, rfl⟩
def Qrm0 (Z : State) (q0 q1 q2 q3 : Int64) (p4 p5 : Int32) (h0 : Heap) (n0 : Nat) (v : Option Value) (h : Heap) (L : List Loc) : Prop := v = some (.int 1) ∧ Fr n0 L
theorem own_and3 (x : Int32) : x &&& 3 = 0 ∨ x &&& 3 = 1 ∨ x &&& 3 = 2 ∨ x &&& 3 = 3 := by
  have h := c_mask x 3 2 (by decide) (by decide)
  simp only [← Int32.toInt_inj, h, show (0 : Int32).toInt = 0 from rfl, show (1 : Int32).toInt = 1 from rfl, show (2 : Int32).toInt = 2 from rfl, show (3 : Int32).toInt = 3 from rfl]
  omega
def own_P (p k : Int32) : Int32 := (p &&& 2147483647) - ((p &&& 2147483647) / k) * k
theorem own_Pv (p k : Int32) (hk : 0 < k.toInt) : (own_P p k).toInt = (p &&& 2147483647).toInt % k.toInt := by
  unfold own_P
  rw [irem_eq_mod]
  have h := c_mask p 2147483647 31 (by decide) (by decide)
  exact (c_irem _ k _ rfl).1 (by rw [h]; omega)
theorem own_P1 (p : Int32) : own_P p 1 = 0 := by
  rw [← Int32.toInt_inj, own_Pv _ _ (by decide), show (1 : Int32).toInt = 1 from rfl, show (0 : Int32).toInt = 0 from rfl]; omega
theorem own_P2 (p : Int32) (h : ¬ own_P p 2 = 0) : own_P p 2 = 1 := by
  rw [← Int32.toInt_inj, own_Pv _ _ (by decide), show (2 : Int32).toInt = 2 from rfl, show (0 : Int32).toInt = 0 from rfl] at h
  rw [← Int32.toInt_inj, own_Pv _ _ (by decide), show (2 : Int32).toInt = 2 from rfl, show (1 : Int32).toInt = 1 from rfl]; omega
theorem own_P3 (p : Int32) (h : ¬ own_P p 3 = 0) (h' : ¬ own_P p 3 = 1) : own_P p 3 = 2 := by
  rw [← Int32.toInt_inj, own_Pv _ _ (by decide), show (3 : Int32).toInt = 3 from rfl] at h h'
  rw [show (0 : Int32).toInt = 0 from rfl] at h
  rw [show (1 : Int32).toInt = 1 from rfl] at h'
  rw [← Int32.toInt_inj, own_Pv _ _ (by decide), show (3 : Int32).toInt = 3 from rfl, show (2 : Int32).toInt = 2 from rfl]; omega
theorem own_inj1_q0 {q0 q3 : Int64} (h : own_fin (own_st (0) q0) = own_fin (own_st (0) q3)) : q0 = q3 := own_st_r (own_fininj h)
theorem own_inj2_q0 {q0 q1 q3 : Int64} (h : own_fin (own_st (own_st (0) q0) q1) = own_fin (own_st (own_st (0) q3) q1)) : q0 = q3 := own_st_r (own_st_l (own_fininj h))
theorem own_inj2_q1 {q0 q1 q3 : Int64} (h : own_fin (own_st (own_st (0) q0) q1) = own_fin (own_st (own_st (0) q0) q3)) : q1 = q3 := own_st_r (own_fininj h)
theorem own_inj3_q0 {q0 q1 q2 q3 : Int64} (h : own_fin (own_st (own_st (own_st (0) q0) q1) q2) = own_fin (own_st (own_st (own_st (0) q3) q1) q2)) : q0 = q3 := own_st_r (own_st_l (own_st_l (own_fininj h)))
theorem own_inj3_q1 {q0 q1 q2 q3 : Int64} (h : own_fin (own_st (own_st (own_st (0) q0) q1) q2) = own_fin (own_st (own_st (own_st (0) q0) q3) q2)) : q1 = q3 := own_st_r (own_st_l (own_fininj h))
theorem own_inj3_q2 {q0 q1 q2 q3 : Int64} (h : own_fin (own_st (own_st (own_st (0) q0) q1) q2) = own_fin (own_st (own_st (own_st (0) q0) q1) q3)) : q2 = q3 := own_st_r (own_fininj h)
theorem pd__IJJJ_J : parseMethodDescriptor "(IJJJ)[J" = some ⟨[.int, .long, .long, .long], some (.array .long)⟩ := by decide +kernel
theorem pd__J_J : parseMethodDescriptor "([J)J" = some ⟨[(.array .long)], some .long⟩ := by decide +kernel
theorem pd__JIJJJ_Z : parseMethodDescriptor "([JIJJJ)Z" = some ⟨[(.array .long), .int, .long, .long, .long], some .boolean⟩ := by decide +kernel
set_option maxRecDepth 65536 in
set_option maxHeartbeats 40000000 in
theorem rm0_0 (l : Launch) (Z : State) (av0 : Array Value) (hw : ∀ d ∈ tables_1, d.before av0 Z = true) (ws : List Jvm.Cond) (q0 : Int64) (q1 : Int64) (q2 : Int64) (q3 : Int64) (p4 : Int32) (p5 : Int32) (h0 : Heap) (n0 : Nat) (Z0 : n0 ≤ h0.size) (hn : p4 &&& (3 : Int32) = (0 : Int32)) :
    MetFree l x (head1 (Jvm.Cond.code x code maxLocals ret :: ws) room_1) (fun aU U => aU = #[(.long q0), (.long q1), (.long q2), (.long q3), (.int p4), (.int p5)] ∧ Z.Warmed39 U.vm ∧ U.heap = h0) (fun _ _ _ _ _ => True) (fun _ U oU U' => ∃ vU LU, oU = .returned vU ∧ Qrm0 Z q0 q1 q2 q3 p4 p5 h0 n0 vU U'.heap LU ∧ FrameEnd U oU U' LU room_1.cells room_1.slots) := by
  refine MetFree.of_bodySF (plainFor_of_name pn_StateSpaceHashPinLaw) hisR ?_
  intro p e s m args below meth c s₁ Bd hml0 hP hK
  obtain ⟨rfl, hZ, hh⟩ := hP
  have hx := Bd.exec
  have hby := Bd.bytes
  have hml : c.maxLocals = 22 := hml0
  have hown : s.vm.findClass "com/example/bare_refinement/barerefinement/exploration/StateSpaceHashPinLaw" = some m.cls := findClass_of_methodNamed Bd.named
  have hnm := (name_of_methodNamed Bd.named Bd.method).1
  have X0 : Stand p l e room_1 s m #[(.long q0), (.long q1), (.long q2), (.long q3), (.int p4), (.int p5)] below meth c s₁ [] 0 0 := Stand.of_body Bd
  have e0 : s₁.heap = h0 := by rw [← hh, Bd.state]; rfl
  have N0 := Fr.nil n0
  have pre0 : ∀ t, Steps p.tables e below (s₁.setTop (mkF m 0 #[.val (.long q0), .second, .val (.long q1), .second, .val (.long q2), .second, .val (.long q3), .second, .val (.int p4), .val (.int p5), .unset, .unset, .unset, .unset, .unset, .unset, .unset, .unset, .unset, .unset, .unset, .unset] [])) t → Steps p.tables e below (s₁.setTop (entryFrame m #[(.long q0), (.long q1), (.long q2), (.long q3), (.int p4), (.int p5)] maxLocals)) t := fun t k => castTop (by first | (simp [entryFrame, mkF, argsToLocals, Value.category, maxLocals]; done) | rfl) k
  obtain ⟨_, _, ⟨T1, L1, k1, n1⟩, -, X1, ⟨Lc1, hQ1, l1, y1, z1⟩, st1⟩ := Jvm.LawKit.callS X0 hx (y := (⟨"com/example/bare_refinement/barerefinement/exploration/StateSpaceHashPinLaw", "make", "(IJJJ)[J"⟩ : MethodName)) hown (mvT hZ (hw _ (List.mem_of_getElem? (i := 0) rfl))) (mvT hZ (hw _ (List.mem_of_getElem? (i := 1) rfl))) (mvT hZ (hw _ (List.mem_of_getElem? (i := 2) rfl))) (mvT hZ (hw _ (List.mem_of_getElem? (i := 3) rfl))) (by decide) (backOf (W := 0) (rmMake0 l Z av0 hw [] q0 q1 q2 h0 n0 Z0) hZ (hw _ (List.mem_of_getElem? (i := 3) rfl)) (hw _ (List.mem_of_getElem? (i := 2) rfl)) (by decide) (by decide)) (g := (mkF m 12 #[.val (.long q0), .second, .val (.long q1), .second, .val (.long q2), .second, .val (.long q3), .second, .val (.int p4), .val (.int p5), .val (.int (0 : Int32)), .unset, .unset, .unset, .unset, .unset, .unset, .unset, .unset, .unset, .unset, .unset] [(.long q2), (.long q1), (.long q0), (.int (0 : Int32))])) rfl (by rw [hml]; rfl) (argsL := [(.int (0 : Int32)), (.long q0), (.long q1), (.long q2)]) (rest := []) (lenOf pd__IJJJ_J rfl) rfl (by show 2 * 0 + _ ≤ _; exact Nat.le_of_eq rfl) (hb hby at_12) (fun _ _ => ⟨rfl, e0, (by decide : 0 + 1 ≤ _), (by decide : 0 + 0 ≤ _)⟩)
  dsimp only [Pt.U, Pt.locs, Pt.cells, Pt.slots] at X1 l1 y1 z1 st1 hQ1
  subst l1 y1 z1
  obtain ⟨b1, k1', rfl, N1q, ge1, K1, V1⟩ := hQ1
  have N1 := Fr.app N0 N1q
  have e1 : T1.heap = T1.heap := rfl
  have Z1 : n0 ≤ T1.heap.size := Nat.le_trans Z0 K1.1
  obtain ⟨_, _, ⟨T2, L2, k2, n2⟩, -, X2, ⟨Lc2, hQ2, l2, y2, z2⟩, st2⟩ := Jvm.LawKit.callS X1 hx (y := (⟨"com/example/bare_refinement/barerefinement/exploration/StateSpaceHashPinLaw", "make", "(IJJJ)[J"⟩ : MethodName)) hown (mvT hZ (hw _ (List.mem_of_getElem? (i := 0) rfl))) (mvT hZ (hw _ (List.mem_of_getElem? (i := 1) rfl))) (mvT hZ (hw _ (List.mem_of_getElem? (i := 2) rfl))) (mvT hZ (hw _ (List.mem_of_getElem? (i := 3) rfl))) (by decide) (backOf (W := 0) (rmMake0 l Z av0 hw [] q0 q1 q2 T1.heap n0 Z1) hZ (hw _ (List.mem_of_getElem? (i := 3) rfl)) (hw _ (List.mem_of_getElem? (i := 2) rfl)) (by decide) (by decide)) (g := (mkF m 23 #[.val (.long q0), .second, .val (.long q1), .second, .val (.long q2), .second, .val (.long q3), .second, .val (.int p4), .val (.int p5), .val (.int (0 : Int32)), .val (.ref b1), .unset, .unset, .unset, .unset, .unset, .unset, .unset, .unset, .unset, .unset] [(.long q2), (.long q1), (.long q0), (.int (0 : Int32))])) rfl (by rw [hml]; rfl) (argsL := [(.int (0 : Int32)), (.long q0), (.long q1), (.long q2)]) (rest := []) (lenOf pd__IJJJ_J rfl) rfl (by show 2 * 0 + _ ≤ _; exact Nat.le_of_eq rfl) (hb hby at_23) (fun _ _ => ⟨rfl, e1, (by decide : 1 + 1 ≤ _), (by decide : 0 + 0 ≤ _)⟩)
  dsimp only [Pt.U, Pt.locs, Pt.cells, Pt.slots] at X2 l2 y2 z2 st2 hQ2
  subst l2 y2 z2
  obtain ⟨b2, k2', rfl, N2q, ge2, K2, V2⟩ := hQ2
  have N2 := Fr.app N1 N2q
  have e2 : T2.heap = T2.heap := rfl
  have ne_b1_b2 : b1 ≠ b2 := Nat.ne_of_lt (Nat.lt_of_lt_of_le V1.lt ge2)
  have Z2 : n0 ≤ T2.heap.size := Nat.le_trans Z1 K2.1
  have f3 := (V1.keep K2 nin0)
  obtain ⟨_, _, ⟨T4, L4, k4, n4⟩, -, X4, ⟨Lc4, hQ4, l4, y4, z4⟩, st4⟩ := Jvm.LawKit.callS X2 hx (y := (⟨"com/example/bare_refinement/barerefinement/exploration/StateSpace", "hash", "([J)J"⟩ : MethodName)) hown (mvT hZ (hw _ (List.mem_of_getElem? (i := 5) rfl))) (mvT hZ (hw _ (List.mem_of_getElem? (i := 6) rfl))) (mvT hZ (hw _ (List.mem_of_getElem? (i := 7) rfl))) (mvT hZ (hw _ (List.mem_of_getElem? (i := 8) rfl))) (by decide) (backOf (W := 0) (rmHash0 l Z av0 hw [] b1 k1'  T2.heap n0 Z2 f3) hZ (hw _ (List.mem_of_getElem? (i := 8) rfl)) (hw _ (List.mem_of_getElem? (i := 7) rfl)) (by decide) (by decide)) (g := (mkF m 30 #[.val (.long q0), .second, .val (.long q1), .second, .val (.long q2), .second, .val (.long q3), .second, .val (.int p4), .val (.int p5), .val (.int (0 : Int32)), .val (.ref b1), .val (.ref b2), .unset, .unset, .unset, .unset, .unset, .unset, .unset, .unset, .unset] [(.ref b1)])) rfl (by rw [hml]; rfl) (argsL := [(.ref b1)]) (rest := []) (lenOf pd__J_J rfl) rfl (by show 2 * 0 + _ ≤ _; exact Nat.le_of_eq rfl) (hb hby at_30) (fun _ _ => ⟨rfl, e2, (by decide : 2 + 0 ≤ _), (by decide : 0 + 0 ≤ _)⟩)
  dsimp only [Pt.U, Pt.locs, Pt.cells, Pt.slots] at X4 l4 y4 z4 st4 hQ4
  subst l4 y4 z4
  obtain ⟨rfl, N4q, hh4⟩ := hQ4
  have N4 := Fr.app N2 N4q
  have e4 : T4.heap = T2.heap := hh4
  obtain ⟨_, _, ⟨T5, L5, k5, n5⟩, -, X5, ⟨Lc5, hQ5, l5, y5, z5⟩, st5⟩ := Jvm.LawKit.callS X4 hx (y := (⟨"com/example/bare_refinement/barerefinement/exploration/StateSpace", "hash", "([J)J"⟩ : MethodName)) hown (mvT hZ (hw _ (List.mem_of_getElem? (i := 5) rfl))) (mvT hZ (hw _ (List.mem_of_getElem? (i := 6) rfl))) (mvT hZ (hw _ (List.mem_of_getElem? (i := 7) rfl))) (mvT hZ (hw _ (List.mem_of_getElem? (i := 8) rfl))) (by decide) (backOf (W := 2) (rmHash0 l Z av0 hw [] b2 k2'  T2.heap n0 Z2 V2) hZ (hw _ (List.mem_of_getElem? (i := 8) rfl)) (hw _ (List.mem_of_getElem? (i := 7) rfl)) (by decide) (by decide)) (g := (mkF m 39 #[.val (.long q0), .second, .val (.long q1), .second, .val (.long q2), .second, .val (.long q3), .second, .val (.int p4), .val (.int p5), .val (.int (0 : Int32)), .val (.ref b1), .val (.ref b2), .val (.long (own_fin (0))), .second, .unset, .unset, .unset, .unset, .unset, .unset, .unset] [(.ref b2), (.long (own_fin (0)))])) rfl (by rw [hml]; rfl) (argsL := [(.ref b2)]) (rest := [(.long (own_fin (0)))]) (lenOf pd__J_J rfl) rfl (by show 2 * 0 + _ ≤ _; exact Nat.le_of_eq rfl) (hb hby at_39) (fun _ _ => ⟨rfl, e4, (by decide : 2 + 0 ≤ _), (by decide : 0 + 0 ≤ _)⟩)
  dsimp only [Pt.U, Pt.locs, Pt.cells, Pt.slots] at X5 l5 y5 z5 st5 hQ5
  subst l5 y5 z5
  obtain ⟨rfl, N5q, hh5⟩ := hQ5
  have N5 := Fr.app N4 N5q
  have e5 : T5.heap = T2.heap := hh5
  obtain ⟨_, _, ⟨T6, L6, k6, n6⟩, -, X6, ⟨Lc6, hQ6, l6, y6, z6⟩, st6⟩ := Jvm.LawKit.callS X5 hx (y := (⟨"com/example/bare_refinement/barerefinement/exploration/StateSpaceHashPinLaw", "unchanged", "([JIJJJ)Z"⟩ : MethodName)) hown (mvT hZ (hw _ (List.mem_of_getElem? (i := 11) rfl))) (mvT hZ (hw _ (List.mem_of_getElem? (i := 12) rfl))) (mvT hZ (hw _ (List.mem_of_getElem? (i := 2) rfl))) (mvT hZ (hw _ (List.mem_of_getElem? (i := 13) rfl))) (by decide) (backOf (W := 0) (rmUn0 l Z av0 hw [] b1 k1' q0 q1 q2 T2.heap n0 Z2 f3) hZ (hw _ (List.mem_of_getElem? (i := 13) rfl)) (hw _ (List.mem_of_getElem? (i := 2) rfl)) (by decide) (by decide)) (g := (mkF m 54 #[.val (.long q0), .second, .val (.long q1), .second, .val (.long q2), .second, .val (.long q3), .second, .val (.int p4), .val (.int p5), .val (.int (0 : Int32)), .val (.ref b1), .val (.ref b2), .val (.long (own_fin (0))), .second, .unset, .unset, .unset, .unset, .unset, .unset, .unset] [(.long q2), (.long q1), (.long q0), (.int (0 : Int32)), (.ref b1)])) rfl (by rw [hml]; rfl) (argsL := [(.ref b1), (.int (0 : Int32)), (.long q0), (.long q1), (.long q2)]) (rest := []) (lenOf pd__JIJJJ_Z rfl) rfl (by show 2 * 0 + _ ≤ _; exact Nat.le_of_eq rfl) (hb hby at_54) (fun _ _ => ⟨rfl, e5, (by decide : 2 + 0 ≤ _), (by decide : 0 + 0 ≤ _)⟩)
  dsimp only [Pt.U, Pt.locs, Pt.cells, Pt.slots] at X6 l6 y6 z6 st6 hQ6
  subst l6 y6 z6
  obtain ⟨rfl, N6q, hh6⟩ := hQ6
  have N6 := Fr.app N5 N6q
  have e6 : T6.heap = T2.heap := hh6
  have S7 : ∀ t, Steps p.tables e below (T6.setTop (mkF m 74 #[.val (.long q0), .second, .val (.long q1), .second, .val (.long q2), .second, .val (.long q3), .second, .val (.int p4), .val (.int p5), .val (.int (0 : Int32)), .val (.ref b1), .val (.ref b2), .val (.long (own_fin (0))), .second, .val (.int (1 : Int32)), .unset, .unset, .unset, .unset, .unset, .unset] [(.int (1 : Int32))])) t → Steps p.tables e below (s₁.setTop (mkF m 0 #[.val (.long q0), .second, .val (.long q1), .second, .val (.long q2), .second, .val (.long q3), .second, .val (.int p4), .val (.int p5), .unset, .unset, .unset, .unset, .unset, .unset, .unset, .unset, .unset, .unset, .unset, .unset] [])) t := fun t k => id (by
    show Steps p.tables e below (s₁.setTop (mkF m 0 #[.val (.long q0), .second, .val (.long q1), .second, .val (.long q2), .second, .val (.long q3), .second, .val (.int p4), .val (.int p5), .unset, .unset, .unset, .unset, .unset, .unset, .unset, .unset, .unset, .unset, .unset, .unset] [])) _
    refine XS.iload X0.here hx rfl (hb hby at_0) rfl ?_
    show Steps p.tables e below (s₁.setTop (mkF m 2 #[.val (.long q0), .second, .val (.long q1), .second, .val (.long q2), .second, .val (.long q3), .second, .val (.int p4), .val (.int p5), .unset, .unset, .unset, .unset, .unset, .unset, .unset, .unset, .unset, .unset, .unset, .unset] [(.int p4)])) _
    refine XT.iconstV X0.here hx rfl (3 : Int32) (hb hby at_2) (by decide) ?_
    show Steps p.tables e below (s₁.setTop (mkF m 3 #[.val (.long q0), .second, .val (.long q1), .second, .val (.long q2), .second, .val (.long q3), .second, .val (.int p4), .val (.int p5), .unset, .unset, .unset, .unset, .unset, .unset, .unset, .unset, .unset, .unset, .unset, .unset] [(.int (3 : Int32)), (.int p4)])) _
    refine XS.iand X0.here hx rfl (hb hby at_3) rfl ?_
    show Steps p.tables e below (s₁.setTop (mkF m 4 #[.val (.long q0), .second, .val (.long q1), .second, .val (.long q2), .second, .val (.long q3), .second, .val (.int p4), .val (.int p5), .unset, .unset, .unset, .unset, .unset, .unset, .unset, .unset, .unset, .unset, .unset, .unset] [(.int (p4 &&& (3 : Int32)))])) _
    rw [hn]
    show Steps p.tables e below (s₁.setTop (mkF m 4 #[.val (.long q0), .second, .val (.long q1), .second, .val (.long q2), .second, .val (.long q3), .second, .val (.int p4), .val (.int p5), .unset, .unset, .unset, .unset, .unset, .unset, .unset, .unset, .unset, .unset, .unset, .unset] [(.int (0 : Int32))])) _
    refine XS.istore X0.here hx rfl (hb hby at_4) rfl (l' := #[.val (.long q0), .second, .val (.long q1), .second, .val (.long q2), .second, .val (.long q3), .second, .val (.int p4), .val (.int p5), .val (.int (0 : Int32)), .unset, .unset, .unset, .unset, .unset, .unset, .unset, .unset, .unset, .unset, .unset]) rfl ?_
    show Steps p.tables e below (s₁.setTop (mkF m 6 #[.val (.long q0), .second, .val (.long q1), .second, .val (.long q2), .second, .val (.long q3), .second, .val (.int p4), .val (.int p5), .val (.int (0 : Int32)), .unset, .unset, .unset, .unset, .unset, .unset, .unset, .unset, .unset, .unset, .unset] [])) _
    refine XS.iload X0.here hx rfl (hb hby at_6) rfl ?_
    show Steps p.tables e below (s₁.setTop (mkF m 8 #[.val (.long q0), .second, .val (.long q1), .second, .val (.long q2), .second, .val (.long q3), .second, .val (.int p4), .val (.int p5), .val (.int (0 : Int32)), .unset, .unset, .unset, .unset, .unset, .unset, .unset, .unset, .unset, .unset, .unset] [(.int (0 : Int32))])) _
    refine XT.lloadN X0.here hx rfl (hb hby at_8) rfl ?_
    show Steps p.tables e below (s₁.setTop (mkF m 9 #[.val (.long q0), .second, .val (.long q1), .second, .val (.long q2), .second, .val (.long q3), .second, .val (.int p4), .val (.int p5), .val (.int (0 : Int32)), .unset, .unset, .unset, .unset, .unset, .unset, .unset, .unset, .unset, .unset, .unset] [(.long q0), (.int (0 : Int32))])) _
    refine XT.lloadN X0.here hx rfl (hb hby at_9) rfl ?_
    show Steps p.tables e below (s₁.setTop (mkF m 10 #[.val (.long q0), .second, .val (.long q1), .second, .val (.long q2), .second, .val (.long q3), .second, .val (.int p4), .val (.int p5), .val (.int (0 : Int32)), .unset, .unset, .unset, .unset, .unset, .unset, .unset, .unset, .unset, .unset, .unset] [(.long q1), (.long q0), (.int (0 : Int32))])) _
    refine XT.lload X0.here hx rfl (hb hby at_10) rfl ?_
    show Steps p.tables e below (s₁.setTop (mkF m 12 #[.val (.long q0), .second, .val (.long q1), .second, .val (.long q2), .second, .val (.long q3), .second, .val (.int p4), .val (.int p5), .val (.int (0 : Int32)), .unset, .unset, .unset, .unset, .unset, .unset, .unset, .unset, .unset, .unset, .unset] [(.long q2), (.long q1), (.long q0), (.int (0 : Int32))])) _
    refine st1 _ ?_
    show Steps p.tables e below (T1.setTop (mkF m 15 #[.val (.long q0), .second, .val (.long q1), .second, .val (.long q2), .second, .val (.long q3), .second, .val (.int p4), .val (.int p5), .val (.int (0 : Int32)), .unset, .unset, .unset, .unset, .unset, .unset, .unset, .unset, .unset, .unset, .unset] [(.ref b1)])) _
    refine XS.astore X1.here hx rfl (hb hby at_15) rfl rfl (l' := #[.val (.long q0), .second, .val (.long q1), .second, .val (.long q2), .second, .val (.long q3), .second, .val (.int p4), .val (.int p5), .val (.int (0 : Int32)), .val (.ref b1), .unset, .unset, .unset, .unset, .unset, .unset, .unset, .unset, .unset, .unset]) rfl ?_
    show Steps p.tables e below (T1.setTop (mkF m 17 #[.val (.long q0), .second, .val (.long q1), .second, .val (.long q2), .second, .val (.long q3), .second, .val (.int p4), .val (.int p5), .val (.int (0 : Int32)), .val (.ref b1), .unset, .unset, .unset, .unset, .unset, .unset, .unset, .unset, .unset, .unset] [])) _
    refine XS.iload X1.here hx rfl (hb hby at_17) rfl ?_
    show Steps p.tables e below (T1.setTop (mkF m 19 #[.val (.long q0), .second, .val (.long q1), .second, .val (.long q2), .second, .val (.long q3), .second, .val (.int p4), .val (.int p5), .val (.int (0 : Int32)), .val (.ref b1), .unset, .unset, .unset, .unset, .unset, .unset, .unset, .unset, .unset, .unset] [(.int (0 : Int32))])) _
    refine XT.lloadN X1.here hx rfl (hb hby at_19) rfl ?_
    show Steps p.tables e below (T1.setTop (mkF m 20 #[.val (.long q0), .second, .val (.long q1), .second, .val (.long q2), .second, .val (.long q3), .second, .val (.int p4), .val (.int p5), .val (.int (0 : Int32)), .val (.ref b1), .unset, .unset, .unset, .unset, .unset, .unset, .unset, .unset, .unset, .unset] [(.long q0), (.int (0 : Int32))])) _
    refine XT.lloadN X1.here hx rfl (hb hby at_20) rfl ?_
    show Steps p.tables e below (T1.setTop (mkF m 21 #[.val (.long q0), .second, .val (.long q1), .second, .val (.long q2), .second, .val (.long q3), .second, .val (.int p4), .val (.int p5), .val (.int (0 : Int32)), .val (.ref b1), .unset, .unset, .unset, .unset, .unset, .unset, .unset, .unset, .unset, .unset] [(.long q1), (.long q0), (.int (0 : Int32))])) _
    refine XT.lload X1.here hx rfl (hb hby at_21) rfl ?_
    show Steps p.tables e below (T1.setTop (mkF m 23 #[.val (.long q0), .second, .val (.long q1), .second, .val (.long q2), .second, .val (.long q3), .second, .val (.int p4), .val (.int p5), .val (.int (0 : Int32)), .val (.ref b1), .unset, .unset, .unset, .unset, .unset, .unset, .unset, .unset, .unset, .unset] [(.long q2), (.long q1), (.long q0), (.int (0 : Int32))])) _
    refine st2 _ ?_
    show Steps p.tables e below (T2.setTop (mkF m 26 #[.val (.long q0), .second, .val (.long q1), .second, .val (.long q2), .second, .val (.long q3), .second, .val (.int p4), .val (.int p5), .val (.int (0 : Int32)), .val (.ref b1), .unset, .unset, .unset, .unset, .unset, .unset, .unset, .unset, .unset, .unset] [(.ref b2)])) _
    refine XS.astore X2.here hx rfl (hb hby at_26) rfl rfl (l' := #[.val (.long q0), .second, .val (.long q1), .second, .val (.long q2), .second, .val (.long q3), .second, .val (.int p4), .val (.int p5), .val (.int (0 : Int32)), .val (.ref b1), .val (.ref b2), .unset, .unset, .unset, .unset, .unset, .unset, .unset, .unset, .unset]) rfl ?_
    show Steps p.tables e below (T2.setTop (mkF m 28 #[.val (.long q0), .second, .val (.long q1), .second, .val (.long q2), .second, .val (.long q3), .second, .val (.int p4), .val (.int p5), .val (.int (0 : Int32)), .val (.ref b1), .val (.ref b2), .unset, .unset, .unset, .unset, .unset, .unset, .unset, .unset, .unset] [])) _
    refine XS.aload X2.here hx rfl (hb hby at_28) rfl rfl ?_
    show Steps p.tables e below (T2.setTop (mkF m 30 #[.val (.long q0), .second, .val (.long q1), .second, .val (.long q2), .second, .val (.long q3), .second, .val (.int p4), .val (.int p5), .val (.int (0 : Int32)), .val (.ref b1), .val (.ref b2), .unset, .unset, .unset, .unset, .unset, .unset, .unset, .unset, .unset] [(.ref b1)])) _
    refine st4 _ ?_
    show Steps p.tables e below (T4.setTop (mkF m 33 #[.val (.long q0), .second, .val (.long q1), .second, .val (.long q2), .second, .val (.long q3), .second, .val (.int p4), .val (.int p5), .val (.int (0 : Int32)), .val (.ref b1), .val (.ref b2), .unset, .unset, .unset, .unset, .unset, .unset, .unset, .unset, .unset] [(.long (own_fin (0)))])) _
    refine XT.lstore X4.here hx rfl (hb hby at_33) rfl (l' := #[.val (.long q0), .second, .val (.long q1), .second, .val (.long q2), .second, .val (.long q3), .second, .val (.int p4), .val (.int p5), .val (.int (0 : Int32)), .val (.ref b1), .val (.ref b2), .val (.long (own_fin (0))), .second, .unset, .unset, .unset, .unset, .unset, .unset, .unset]) rfl ?_
    show Steps p.tables e below (T4.setTop (mkF m 35 #[.val (.long q0), .second, .val (.long q1), .second, .val (.long q2), .second, .val (.long q3), .second, .val (.int p4), .val (.int p5), .val (.int (0 : Int32)), .val (.ref b1), .val (.ref b2), .val (.long (own_fin (0))), .second, .unset, .unset, .unset, .unset, .unset, .unset, .unset] [])) _
    refine XT.lload X4.here hx rfl (hb hby at_35) rfl ?_
    show Steps p.tables e below (T4.setTop (mkF m 37 #[.val (.long q0), .second, .val (.long q1), .second, .val (.long q2), .second, .val (.long q3), .second, .val (.int p4), .val (.int p5), .val (.int (0 : Int32)), .val (.ref b1), .val (.ref b2), .val (.long (own_fin (0))), .second, .unset, .unset, .unset, .unset, .unset, .unset, .unset] [(.long (own_fin (0)))])) _
    refine XS.aload X4.here hx rfl (hb hby at_37) rfl rfl ?_
    show Steps p.tables e below (T4.setTop (mkF m 39 #[.val (.long q0), .second, .val (.long q1), .second, .val (.long q2), .second, .val (.long q3), .second, .val (.int p4), .val (.int p5), .val (.int (0 : Int32)), .val (.ref b1), .val (.ref b2), .val (.long (own_fin (0))), .second, .unset, .unset, .unset, .unset, .unset, .unset, .unset] [(.ref b2), (.long (own_fin (0)))])) _
    refine st5 _ ?_
    show Steps p.tables e below (T5.setTop (mkF m 42 #[.val (.long q0), .second, .val (.long q1), .second, .val (.long q2), .second, .val (.long q3), .second, .val (.int p4), .val (.int p5), .val (.int (0 : Int32)), .val (.ref b1), .val (.ref b2), .val (.long (own_fin (0))), .second, .unset, .unset, .unset, .unset, .unset, .unset, .unset] [(.long (own_fin (0))), (.long (own_fin (0)))])) _
    refine XT.lcmp X5.here hx rfl (hb hby at_42) rfl ?_
    show Steps p.tables e below (T5.setTop (mkF m 43 #[.val (.long q0), .second, .val (.long q1), .second, .val (.long q2), .second, .val (.long q3), .second, .val (.int p4), .val (.int p5), .val (.int (0 : Int32)), .val (.ref b1), .val (.ref b2), .val (.long (own_fin (0))), .second, .unset, .unset, .unset, .unset, .unset, .unset, .unset] [(.int (XT.cmpL (own_fin (0)) (own_fin (0))))])) _
    refine XS.ifNo X5.here hx rfl (hb hby at_43) rfl (XT.ll_ne_f rfl) ?_
    show Steps p.tables e below (T5.setTop (mkF m 46 #[.val (.long q0), .second, .val (.long q1), .second, .val (.long q2), .second, .val (.long q3), .second, .val (.int p4), .val (.int p5), .val (.int (0 : Int32)), .val (.ref b1), .val (.ref b2), .val (.long (own_fin (0))), .second, .unset, .unset, .unset, .unset, .unset, .unset, .unset] [])) _
    refine XS.aload X5.here hx rfl (hb hby at_46) rfl rfl ?_
    show Steps p.tables e below (T5.setTop (mkF m 48 #[.val (.long q0), .second, .val (.long q1), .second, .val (.long q2), .second, .val (.long q3), .second, .val (.int p4), .val (.int p5), .val (.int (0 : Int32)), .val (.ref b1), .val (.ref b2), .val (.long (own_fin (0))), .second, .unset, .unset, .unset, .unset, .unset, .unset, .unset] [(.ref b1)])) _
    refine XS.iload X5.here hx rfl (hb hby at_48) rfl ?_
    show Steps p.tables e below (T5.setTop (mkF m 50 #[.val (.long q0), .second, .val (.long q1), .second, .val (.long q2), .second, .val (.long q3), .second, .val (.int p4), .val (.int p5), .val (.int (0 : Int32)), .val (.ref b1), .val (.ref b2), .val (.long (own_fin (0))), .second, .unset, .unset, .unset, .unset, .unset, .unset, .unset] [(.int (0 : Int32)), (.ref b1)])) _
    refine XT.lloadN X5.here hx rfl (hb hby at_50) rfl ?_
    show Steps p.tables e below (T5.setTop (mkF m 51 #[.val (.long q0), .second, .val (.long q1), .second, .val (.long q2), .second, .val (.long q3), .second, .val (.int p4), .val (.int p5), .val (.int (0 : Int32)), .val (.ref b1), .val (.ref b2), .val (.long (own_fin (0))), .second, .unset, .unset, .unset, .unset, .unset, .unset, .unset] [(.long q0), (.int (0 : Int32)), (.ref b1)])) _
    refine XT.lloadN X5.here hx rfl (hb hby at_51) rfl ?_
    show Steps p.tables e below (T5.setTop (mkF m 52 #[.val (.long q0), .second, .val (.long q1), .second, .val (.long q2), .second, .val (.long q3), .second, .val (.int p4), .val (.int p5), .val (.int (0 : Int32)), .val (.ref b1), .val (.ref b2), .val (.long (own_fin (0))), .second, .unset, .unset, .unset, .unset, .unset, .unset, .unset] [(.long q1), (.long q0), (.int (0 : Int32)), (.ref b1)])) _
    refine XT.lload X5.here hx rfl (hb hby at_52) rfl ?_
    show Steps p.tables e below (T5.setTop (mkF m 54 #[.val (.long q0), .second, .val (.long q1), .second, .val (.long q2), .second, .val (.long q3), .second, .val (.int p4), .val (.int p5), .val (.int (0 : Int32)), .val (.ref b1), .val (.ref b2), .val (.long (own_fin (0))), .second, .unset, .unset, .unset, .unset, .unset, .unset, .unset] [(.long q2), (.long q1), (.long q0), (.int (0 : Int32)), (.ref b1)])) _
    refine st6 _ ?_
    show Steps p.tables e below (T6.setTop (mkF m 57 #[.val (.long q0), .second, .val (.long q1), .second, .val (.long q2), .second, .val (.long q3), .second, .val (.int p4), .val (.int p5), .val (.int (0 : Int32)), .val (.ref b1), .val (.ref b2), .val (.long (own_fin (0))), .second, .unset, .unset, .unset, .unset, .unset, .unset, .unset] [(.int (1 : Int32))])) _
    refine XS.ifNo X6.here hx rfl (hb hby at_57) rfl (XT.i0_eq_f (by decide)) ?_
    show Steps p.tables e below (T6.setTop (mkF m 60 #[.val (.long q0), .second, .val (.long q1), .second, .val (.long q2), .second, .val (.long q3), .second, .val (.int p4), .val (.int p5), .val (.int (0 : Int32)), .val (.ref b1), .val (.ref b2), .val (.long (own_fin (0))), .second, .unset, .unset, .unset, .unset, .unset, .unset, .unset] [])) _
    refine XT.iconstV X6.here hx rfl (1 : Int32) (hb hby at_60) (by decide) ?_
    show Steps p.tables e below (T6.setTop (mkF m 61 #[.val (.long q0), .second, .val (.long q1), .second, .val (.long q2), .second, .val (.long q3), .second, .val (.int p4), .val (.int p5), .val (.int (0 : Int32)), .val (.ref b1), .val (.ref b2), .val (.long (own_fin (0))), .second, .unset, .unset, .unset, .unset, .unset, .unset, .unset] [(.int (1 : Int32))])) _
    refine XS.goto X6.here hx rfl (pc0 := 61) (pc' := 65) rfl (hb hby at_61) (by decide) (by decide) ?_
    show Steps p.tables e below (T6.setTop (mkF m 65 #[.val (.long q0), .second, .val (.long q1), .second, .val (.long q2), .second, .val (.long q3), .second, .val (.int p4), .val (.int p5), .val (.int (0 : Int32)), .val (.ref b1), .val (.ref b2), .val (.long (own_fin (0))), .second, .unset, .unset, .unset, .unset, .unset, .unset, .unset] [(.int (1 : Int32))])) _
    refine XS.istore X6.here hx rfl (hb hby at_65) rfl (l' := #[.val (.long q0), .second, .val (.long q1), .second, .val (.long q2), .second, .val (.long q3), .second, .val (.int p4), .val (.int p5), .val (.int (0 : Int32)), .val (.ref b1), .val (.ref b2), .val (.long (own_fin (0))), .second, .val (.int (1 : Int32)), .unset, .unset, .unset, .unset, .unset, .unset]) rfl ?_
    show Steps p.tables e below (T6.setTop (mkF m 67 #[.val (.long q0), .second, .val (.long q1), .second, .val (.long q2), .second, .val (.long q3), .second, .val (.int p4), .val (.int p5), .val (.int (0 : Int32)), .val (.ref b1), .val (.ref b2), .val (.long (own_fin (0))), .second, .val (.int (1 : Int32)), .unset, .unset, .unset, .unset, .unset, .unset] [])) _
    refine XS.iload X6.here hx rfl (hb hby at_67) rfl ?_
    show Steps p.tables e below (T6.setTop (mkF m 69 #[.val (.long q0), .second, .val (.long q1), .second, .val (.long q2), .second, .val (.long q3), .second, .val (.int p4), .val (.int p5), .val (.int (0 : Int32)), .val (.ref b1), .val (.ref b2), .val (.long (own_fin (0))), .second, .val (.int (1 : Int32)), .unset, .unset, .unset, .unset, .unset, .unset] [(.int (0 : Int32))])) _
    refine XS.ifNo X6.here hx rfl (hb hby at_69) rfl (XT.i0_ne_f (by decide)) ?_
    show Steps p.tables e below (T6.setTop (mkF m 72 #[.val (.long q0), .second, .val (.long q1), .second, .val (.long q2), .second, .val (.long q3), .second, .val (.int p4), .val (.int p5), .val (.int (0 : Int32)), .val (.ref b1), .val (.ref b2), .val (.long (own_fin (0))), .second, .val (.int (1 : Int32)), .unset, .unset, .unset, .unset, .unset, .unset] [])) _
    refine XS.iload X6.here hx rfl (hb hby at_72) rfl ?_
    show Steps p.tables e below (T6.setTop (mkF m 74 #[.val (.long q0), .second, .val (.long q1), .second, .val (.long q2), .second, .val (.long q3), .second, .val (.int p4), .val (.int p5), .val (.int (0 : Int32)), .val (.ref b1), .val (.ref b2), .val (.long (own_fin (0))), .second, .val (.int (1 : Int32)), .unset, .unset, .unset, .unset, .unset, .unset] [(.int (1 : Int32))])) _
    exact k)
  obtain ⟨fs, hr, hrun, hended, hW, hsame⟩ := X6.leave (v := some (.int (1 : Int32))) (fun h => by rw [Bd.returns] at h; cases h)
  refine ⟨_, _, pre0 _ (S7 _ ?_), hrun, hended, _, _, rfl, ?_, ⟨_, rfl⟩, hW, hsame.mono (by decide) (by decide)⟩
  · exact retN X6 hx (t := .boolean) Bd.returns (by simp) (hb hby at_74) hr
  · show Qrm0 Z q0 q1 q2 q3 p4 p5 h0 n0 _ T6.heap _
    rw [e6]
    exact ⟨rfl, N6⟩
set_option maxRecDepth 65536 in
set_option maxHeartbeats 40000000 in
theorem rm0_1 (l : Launch) (Z : State) (av0 : Array Value) (hw : ∀ d ∈ tables_1, d.before av0 Z = true) (ws : List Jvm.Cond) (q0 : Int64) (q1 : Int64) (q2 : Int64) (q3 : Int64) (p4 : Int32) (p5 : Int32) (h0 : Heap) (n0 : Nat) (Z0 : n0 ≤ h0.size) (hn : p4 &&& (3 : Int32) = (1 : Int32)) :
    MetFree l x (head1 (Jvm.Cond.code x code maxLocals ret :: ws) room_1) (fun aU U => aU = #[(.long q0), (.long q1), (.long q2), (.long q3), (.int p4), (.int p5)] ∧ Z.Warmed39 U.vm ∧ U.heap = h0) (fun _ _ _ _ _ => True) (fun _ U oU U' => ∃ vU LU, oU = .returned vU ∧ Qrm0 Z q0 q1 q2 q3 p4 p5 h0 n0 vU U'.heap LU ∧ FrameEnd U oU U' LU room_1.cells room_1.slots) := by
  refine MetFree.of_bodySF (plainFor_of_name pn_StateSpaceHashPinLaw) hisR ?_
  intro p e s m args below meth c s₁ Bd hml0 hP hK
  obtain ⟨rfl, hZ, hh⟩ := hP
  have hx := Bd.exec
  have hby := Bd.bytes
  have hml : c.maxLocals = 22 := hml0
  have hown : s.vm.findClass "com/example/bare_refinement/barerefinement/exploration/StateSpaceHashPinLaw" = some m.cls := findClass_of_methodNamed Bd.named
  have hnm := (name_of_methodNamed Bd.named Bd.method).1
  have X0 : Stand p l e room_1 s m #[(.long q0), (.long q1), (.long q2), (.long q3), (.int p4), (.int p5)] below meth c s₁ [] 0 0 := Stand.of_body Bd
  have e0 : s₁.heap = h0 := by rw [← hh, Bd.state]; rfl
  have N0 := Fr.nil n0
  have pre0 : ∀ t, Steps p.tables e below (s₁.setTop (mkF m 0 #[.val (.long q0), .second, .val (.long q1), .second, .val (.long q2), .second, .val (.long q3), .second, .val (.int p4), .val (.int p5), .unset, .unset, .unset, .unset, .unset, .unset, .unset, .unset, .unset, .unset, .unset, .unset] [])) t → Steps p.tables e below (s₁.setTop (entryFrame m #[(.long q0), (.long q1), (.long q2), (.long q3), (.int p4), (.int p5)] maxLocals)) t := fun t k => castTop (by first | (simp [entryFrame, mkF, argsToLocals, Value.category, maxLocals]; done) | rfl) k
  obtain ⟨_, _, ⟨T1, L1, k1, n1⟩, -, X1, ⟨Lc1, hQ1, l1, y1, z1⟩, st1⟩ := Jvm.LawKit.callS X0 hx (y := (⟨"com/example/bare_refinement/barerefinement/exploration/StateSpaceHashPinLaw", "make", "(IJJJ)[J"⟩ : MethodName)) hown (mvT hZ (hw _ (List.mem_of_getElem? (i := 0) rfl))) (mvT hZ (hw _ (List.mem_of_getElem? (i := 1) rfl))) (mvT hZ (hw _ (List.mem_of_getElem? (i := 2) rfl))) (mvT hZ (hw _ (List.mem_of_getElem? (i := 3) rfl))) (by decide) (backOf (W := 0) (rmMake1 l Z av0 hw [] q0 q1 q2 h0 n0 Z0) hZ (hw _ (List.mem_of_getElem? (i := 3) rfl)) (hw _ (List.mem_of_getElem? (i := 2) rfl)) (by decide) (by decide)) (g := (mkF m 12 #[.val (.long q0), .second, .val (.long q1), .second, .val (.long q2), .second, .val (.long q3), .second, .val (.int p4), .val (.int p5), .val (.int (1 : Int32)), .unset, .unset, .unset, .unset, .unset, .unset, .unset, .unset, .unset, .unset, .unset] [(.long q2), (.long q1), (.long q0), (.int (1 : Int32))])) rfl (by rw [hml]; rfl) (argsL := [(.int (1 : Int32)), (.long q0), (.long q1), (.long q2)]) (rest := []) (lenOf pd__IJJJ_J rfl) rfl (by show 2 * 0 + _ ≤ _; exact Nat.le_of_eq rfl) (hb hby at_12) (fun _ _ => ⟨rfl, e0, (by decide : 0 + 1 ≤ _), (by decide : 0 + 1 ≤ _)⟩)
  dsimp only [Pt.U, Pt.locs, Pt.cells, Pt.slots] at X1 l1 y1 z1 st1 hQ1
  subst l1 y1 z1
  obtain ⟨b1, k1', rfl, N1q, ge1, K1, V1⟩ := hQ1
  have N1 := Fr.app N0 N1q
  have e1 : T1.heap = T1.heap := rfl
  have Z1 : n0 ≤ T1.heap.size := Nat.le_trans Z0 K1.1
  obtain ⟨_, _, ⟨T2, L2, k2, n2⟩, -, X2, ⟨Lc2, hQ2, l2, y2, z2⟩, st2⟩ := Jvm.LawKit.callS X1 hx (y := (⟨"com/example/bare_refinement/barerefinement/exploration/StateSpaceHashPinLaw", "make", "(IJJJ)[J"⟩ : MethodName)) hown (mvT hZ (hw _ (List.mem_of_getElem? (i := 0) rfl))) (mvT hZ (hw _ (List.mem_of_getElem? (i := 1) rfl))) (mvT hZ (hw _ (List.mem_of_getElem? (i := 2) rfl))) (mvT hZ (hw _ (List.mem_of_getElem? (i := 3) rfl))) (by decide) (backOf (W := 0) (rmMake1 l Z av0 hw [] q0 q1 q2 T1.heap n0 Z1) hZ (hw _ (List.mem_of_getElem? (i := 3) rfl)) (hw _ (List.mem_of_getElem? (i := 2) rfl)) (by decide) (by decide)) (g := (mkF m 23 #[.val (.long q0), .second, .val (.long q1), .second, .val (.long q2), .second, .val (.long q3), .second, .val (.int p4), .val (.int p5), .val (.int (1 : Int32)), .val (.ref b1), .unset, .unset, .unset, .unset, .unset, .unset, .unset, .unset, .unset, .unset] [(.long q2), (.long q1), (.long q0), (.int (1 : Int32))])) rfl (by rw [hml]; rfl) (argsL := [(.int (1 : Int32)), (.long q0), (.long q1), (.long q2)]) (rest := []) (lenOf pd__IJJJ_J rfl) rfl (by show 2 * 0 + _ ≤ _; exact Nat.le_of_eq rfl) (hb hby at_23) (fun _ _ => ⟨rfl, e1, (by decide : 1 + 1 ≤ _), (by decide : 1 + 1 ≤ _)⟩)
  dsimp only [Pt.U, Pt.locs, Pt.cells, Pt.slots] at X2 l2 y2 z2 st2 hQ2
  subst l2 y2 z2
  obtain ⟨b2, k2', rfl, N2q, ge2, K2, V2⟩ := hQ2
  have N2 := Fr.app N1 N2q
  have e2 : T2.heap = T2.heap := rfl
  have ne_b1_b2 : b1 ≠ b2 := Nat.ne_of_lt (Nat.lt_of_lt_of_le V1.lt ge2)
  have Z2 : n0 ≤ T2.heap.size := Nat.le_trans Z1 K2.1
  have f3 := (V1.keep K2 nin0)
  obtain ⟨_, _, ⟨T4, L4, k4, n4⟩, -, X4, ⟨Lc4, hQ4, l4, y4, z4⟩, st4⟩ := Jvm.LawKit.callS X2 hx (y := (⟨"com/example/bare_refinement/barerefinement/exploration/StateSpace", "hash", "([J)J"⟩ : MethodName)) hown (mvT hZ (hw _ (List.mem_of_getElem? (i := 5) rfl))) (mvT hZ (hw _ (List.mem_of_getElem? (i := 6) rfl))) (mvT hZ (hw _ (List.mem_of_getElem? (i := 7) rfl))) (mvT hZ (hw _ (List.mem_of_getElem? (i := 8) rfl))) (by decide) (backOf (W := 0) (rmHash1 l Z av0 hw [] b1 k1' q0 T2.heap n0 Z2 f3) hZ (hw _ (List.mem_of_getElem? (i := 8) rfl)) (hw _ (List.mem_of_getElem? (i := 7) rfl)) (by decide) (by decide)) (g := (mkF m 30 #[.val (.long q0), .second, .val (.long q1), .second, .val (.long q2), .second, .val (.long q3), .second, .val (.int p4), .val (.int p5), .val (.int (1 : Int32)), .val (.ref b1), .val (.ref b2), .unset, .unset, .unset, .unset, .unset, .unset, .unset, .unset, .unset] [(.ref b1)])) rfl (by rw [hml]; rfl) (argsL := [(.ref b1)]) (rest := []) (lenOf pd__J_J rfl) rfl (by show 2 * 0 + _ ≤ _; exact Nat.le_of_eq rfl) (hb hby at_30) (fun _ _ => ⟨rfl, e2, (by decide : 2 + 0 ≤ _), (by decide : 2 + 0 ≤ _)⟩)
  dsimp only [Pt.U, Pt.locs, Pt.cells, Pt.slots] at X4 l4 y4 z4 st4 hQ4
  subst l4 y4 z4
  obtain ⟨rfl, N4q, hh4⟩ := hQ4
  have N4 := Fr.app N2 N4q
  have e4 : T4.heap = T2.heap := hh4
  obtain ⟨_, _, ⟨T5, L5, k5, n5⟩, -, X5, ⟨Lc5, hQ5, l5, y5, z5⟩, st5⟩ := Jvm.LawKit.callS X4 hx (y := (⟨"com/example/bare_refinement/barerefinement/exploration/StateSpace", "hash", "([J)J"⟩ : MethodName)) hown (mvT hZ (hw _ (List.mem_of_getElem? (i := 5) rfl))) (mvT hZ (hw _ (List.mem_of_getElem? (i := 6) rfl))) (mvT hZ (hw _ (List.mem_of_getElem? (i := 7) rfl))) (mvT hZ (hw _ (List.mem_of_getElem? (i := 8) rfl))) (by decide) (backOf (W := 2) (rmHash1 l Z av0 hw [] b2 k2' q0 T2.heap n0 Z2 V2) hZ (hw _ (List.mem_of_getElem? (i := 8) rfl)) (hw _ (List.mem_of_getElem? (i := 7) rfl)) (by decide) (by decide)) (g := (mkF m 39 #[.val (.long q0), .second, .val (.long q1), .second, .val (.long q2), .second, .val (.long q3), .second, .val (.int p4), .val (.int p5), .val (.int (1 : Int32)), .val (.ref b1), .val (.ref b2), .val (.long (own_fin (own_st (0) q0))), .second, .unset, .unset, .unset, .unset, .unset, .unset, .unset] [(.ref b2), (.long (own_fin (own_st (0) q0)))])) rfl (by rw [hml]; rfl) (argsL := [(.ref b2)]) (rest := [(.long (own_fin (own_st (0) q0)))]) (lenOf pd__J_J rfl) rfl (by show 2 * 0 + _ ≤ _; exact Nat.le_of_eq rfl) (hb hby at_39) (fun _ _ => ⟨rfl, e4, (by decide : 2 + 0 ≤ _), (by decide : 2 + 0 ≤ _)⟩)
  dsimp only [Pt.U, Pt.locs, Pt.cells, Pt.slots] at X5 l5 y5 z5 st5 hQ5
  subst l5 y5 z5
  obtain ⟨rfl, N5q, hh5⟩ := hQ5
  have N5 := Fr.app N4 N5q
  have e5 : T5.heap = T2.heap := hh5
  obtain ⟨_, _, ⟨T6, L6, k6, n6⟩, -, X6, ⟨Lc6, hQ6, l6, y6, z6⟩, st6⟩ := Jvm.LawKit.callS X5 hx (y := (⟨"com/example/bare_refinement/barerefinement/exploration/StateSpaceHashPinLaw", "unchanged", "([JIJJJ)Z"⟩ : MethodName)) hown (mvT hZ (hw _ (List.mem_of_getElem? (i := 11) rfl))) (mvT hZ (hw _ (List.mem_of_getElem? (i := 12) rfl))) (mvT hZ (hw _ (List.mem_of_getElem? (i := 2) rfl))) (mvT hZ (hw _ (List.mem_of_getElem? (i := 13) rfl))) (by decide) (backOf (W := 0) (rmUn1 l Z av0 hw [] b1 k1' q0 q1 q2 T2.heap n0 Z2 f3) hZ (hw _ (List.mem_of_getElem? (i := 13) rfl)) (hw _ (List.mem_of_getElem? (i := 2) rfl)) (by decide) (by decide)) (g := (mkF m 54 #[.val (.long q0), .second, .val (.long q1), .second, .val (.long q2), .second, .val (.long q3), .second, .val (.int p4), .val (.int p5), .val (.int (1 : Int32)), .val (.ref b1), .val (.ref b2), .val (.long (own_fin (own_st (0) q0))), .second, .unset, .unset, .unset, .unset, .unset, .unset, .unset] [(.long q2), (.long q1), (.long q0), (.int (1 : Int32)), (.ref b1)])) rfl (by rw [hml]; rfl) (argsL := [(.ref b1), (.int (1 : Int32)), (.long q0), (.long q1), (.long q2)]) (rest := []) (lenOf pd__JIJJJ_Z rfl) rfl (by show 2 * 0 + _ ≤ _; exact Nat.le_of_eq rfl) (hb hby at_54) (fun _ _ => ⟨rfl, e5, (by decide : 2 + 0 ≤ _), (by decide : 2 + 0 ≤ _)⟩)
  dsimp only [Pt.U, Pt.locs, Pt.cells, Pt.slots] at X6 l6 y6 z6 st6 hQ6
  subst l6 y6 z6
  obtain ⟨rfl, N6q, hh6⟩ := hQ6
  have N6 := Fr.app N5 N6q
  have e6 : T6.heap = T2.heap := hh6
  obtain ⟨_, _, ⟨T7, L7, k7, n7⟩, -, X7, ⟨Lc7, hQ7, l7, y7, z7⟩, st7⟩ := Jvm.LawKit.callS X6 hx (y := (⟨"com/example/bare_refinement/barerefinement/exploration/StateSpaceHashPinLaw", "make", "(IJJJ)[J"⟩ : MethodName)) hown (mvT hZ (hw _ (List.mem_of_getElem? (i := 0) rfl))) (mvT hZ (hw _ (List.mem_of_getElem? (i := 1) rfl))) (mvT hZ (hw _ (List.mem_of_getElem? (i := 2) rfl))) (mvT hZ (hw _ (List.mem_of_getElem? (i := 3) rfl))) (by decide) (backOf (W := 0) (rmMake1 l Z av0 hw [] q3 q1 q2 T2.heap n0 Z2) hZ (hw _ (List.mem_of_getElem? (i := 3) rfl)) (hw _ (List.mem_of_getElem? (i := 2) rfl)) (by decide) (by decide)) (g := (mkF m 146 #[.val (.long q0), .second, .val (.long q1), .second, .val (.long q2), .second, .val (.long q3), .second, .val (.int p4), .val (.int p5), .val (.int (1 : Int32)), .val (.ref b1), .val (.ref b2), .val (.long (own_fin (own_st (0) q0))), .second, .val (.int (1 : Int32)), .val (.int (own_P p5 (1 : Int32))), .val (.long q0), .second, .unset, .unset, .unset] [(.long q2), (.long q1), (.long q3), (.int (1 : Int32))])) rfl (by rw [hml]; rfl) (argsL := [(.int (1 : Int32)), (.long q3), (.long q1), (.long q2)]) (rest := []) (lenOf pd__IJJJ_J rfl) rfl (by show 2 * 0 + _ ≤ _; exact Nat.le_of_eq rfl) (hb hby at_146) (fun _ _ => ⟨rfl, e6, (by decide : 2 + 1 ≤ _), (by decide : 2 + 1 ≤ _)⟩)
  dsimp only [Pt.U, Pt.locs, Pt.cells, Pt.slots] at X7 l7 y7 z7 st7 hQ7
  subst l7 y7 z7
  obtain ⟨b7, k7', rfl, N7q, ge7, K7, V7⟩ := hQ7
  have N7 := Fr.app N6 N7q
  have e7 : T7.heap = T7.heap := rfl
  have ne_b1_b7 : b1 ≠ b7 := Nat.ne_of_lt (Nat.lt_of_lt_of_le f3.lt ge7)
  have ne_b2_b7 : b2 ≠ b7 := Nat.ne_of_lt (Nat.lt_of_lt_of_le V2.lt ge7)
  have Z7 : n0 ≤ T7.heap.size := Nat.le_trans Z2 K7.1
  obtain ⟨_, _, ⟨T8, L8, k8, n8⟩, -, X8, ⟨Lc8, hQ8, l8, y8, z8⟩, st8⟩ := Jvm.LawKit.callS X7 hx (y := (⟨"com/example/bare_refinement/barerefinement/exploration/StateSpace", "hash", "([J)J"⟩ : MethodName)) hown (mvT hZ (hw _ (List.mem_of_getElem? (i := 5) rfl))) (mvT hZ (hw _ (List.mem_of_getElem? (i := 6) rfl))) (mvT hZ (hw _ (List.mem_of_getElem? (i := 7) rfl))) (mvT hZ (hw _ (List.mem_of_getElem? (i := 8) rfl))) (by decide) (backOf (W := 0) (rmHash1 l Z av0 hw [] b7 k7' q3 T7.heap n0 Z7 V7) hZ (hw _ (List.mem_of_getElem? (i := 8) rfl)) (hw _ (List.mem_of_getElem? (i := 7) rfl)) (by decide) (by decide)) (g := (mkF m 153 #[.val (.long q0), .second, .val (.long q1), .second, .val (.long q2), .second, .val (.long q3), .second, .val (.int p4), .val (.int p5), .val (.int (1 : Int32)), .val (.ref b1), .val (.ref b2), .val (.long (own_fin (own_st (0) q0))), .second, .val (.int (1 : Int32)), .val (.int (own_P p5 (1 : Int32))), .val (.long q0), .second, .val (.ref b7), .unset, .unset] [(.ref b7)])) rfl (by rw [hml]; rfl) (argsL := [(.ref b7)]) (rest := []) (lenOf pd__J_J rfl) rfl (by show 2 * 0 + _ ≤ _; exact Nat.le_of_eq rfl) (hb hby at_153) (fun _ _ => ⟨rfl, e7, (by decide : 3 + 0 ≤ _), (by decide : 3 + 0 ≤ _)⟩)
  dsimp only [Pt.U, Pt.locs, Pt.cells, Pt.slots] at X8 l8 y8 z8 st8 hQ8
  subst l8 y8 z8
  obtain ⟨rfl, N8q, hh8⟩ := hQ8
  have N8 := Fr.app N7 N8q
  have e8 : T8.heap = T7.heap := hh8
  have S9 : ∀ t, Steps p.tables e below (T8.setTop (mkF m 168 #[.val (.long q0), .second, .val (.long q1), .second, .val (.long q2), .second, .val (.long q3), .second, .val (.int p4), .val (.int p5), .val (.int (1 : Int32)), .val (.ref b1), .val (.ref b2), .val (.long (own_fin (own_st (0) q0))), .second, .val (.int (1 : Int32)), .val (.int (own_P p5 (1 : Int32))), .val (.long q0), .second, .val (.ref b7), .val (.long (own_fin (own_st (0) q3))), .second] [(.int (XT.cmpL (own_fin (own_st (0) q0)) (own_fin (own_st (0) q3))))])) t → Steps p.tables e below (s₁.setTop (mkF m 0 #[.val (.long q0), .second, .val (.long q1), .second, .val (.long q2), .second, .val (.long q3), .second, .val (.int p4), .val (.int p5), .unset, .unset, .unset, .unset, .unset, .unset, .unset, .unset, .unset, .unset, .unset, .unset] [])) t := fun t k => id (by
    show Steps p.tables e below (s₁.setTop (mkF m 0 #[.val (.long q0), .second, .val (.long q1), .second, .val (.long q2), .second, .val (.long q3), .second, .val (.int p4), .val (.int p5), .unset, .unset, .unset, .unset, .unset, .unset, .unset, .unset, .unset, .unset, .unset, .unset] [])) _
    refine XS.iload X0.here hx rfl (hb hby at_0) rfl ?_
    show Steps p.tables e below (s₁.setTop (mkF m 2 #[.val (.long q0), .second, .val (.long q1), .second, .val (.long q2), .second, .val (.long q3), .second, .val (.int p4), .val (.int p5), .unset, .unset, .unset, .unset, .unset, .unset, .unset, .unset, .unset, .unset, .unset, .unset] [(.int p4)])) _
    refine XT.iconstV X0.here hx rfl (3 : Int32) (hb hby at_2) (by decide) ?_
    show Steps p.tables e below (s₁.setTop (mkF m 3 #[.val (.long q0), .second, .val (.long q1), .second, .val (.long q2), .second, .val (.long q3), .second, .val (.int p4), .val (.int p5), .unset, .unset, .unset, .unset, .unset, .unset, .unset, .unset, .unset, .unset, .unset, .unset] [(.int (3 : Int32)), (.int p4)])) _
    refine XS.iand X0.here hx rfl (hb hby at_3) rfl ?_
    show Steps p.tables e below (s₁.setTop (mkF m 4 #[.val (.long q0), .second, .val (.long q1), .second, .val (.long q2), .second, .val (.long q3), .second, .val (.int p4), .val (.int p5), .unset, .unset, .unset, .unset, .unset, .unset, .unset, .unset, .unset, .unset, .unset, .unset] [(.int (p4 &&& (3 : Int32)))])) _
    rw [hn]
    show Steps p.tables e below (s₁.setTop (mkF m 4 #[.val (.long q0), .second, .val (.long q1), .second, .val (.long q2), .second, .val (.long q3), .second, .val (.int p4), .val (.int p5), .unset, .unset, .unset, .unset, .unset, .unset, .unset, .unset, .unset, .unset, .unset, .unset] [(.int (1 : Int32))])) _
    refine XS.istore X0.here hx rfl (hb hby at_4) rfl (l' := #[.val (.long q0), .second, .val (.long q1), .second, .val (.long q2), .second, .val (.long q3), .second, .val (.int p4), .val (.int p5), .val (.int (1 : Int32)), .unset, .unset, .unset, .unset, .unset, .unset, .unset, .unset, .unset, .unset, .unset]) rfl ?_
    show Steps p.tables e below (s₁.setTop (mkF m 6 #[.val (.long q0), .second, .val (.long q1), .second, .val (.long q2), .second, .val (.long q3), .second, .val (.int p4), .val (.int p5), .val (.int (1 : Int32)), .unset, .unset, .unset, .unset, .unset, .unset, .unset, .unset, .unset, .unset, .unset] [])) _
    refine XS.iload X0.here hx rfl (hb hby at_6) rfl ?_
    show Steps p.tables e below (s₁.setTop (mkF m 8 #[.val (.long q0), .second, .val (.long q1), .second, .val (.long q2), .second, .val (.long q3), .second, .val (.int p4), .val (.int p5), .val (.int (1 : Int32)), .unset, .unset, .unset, .unset, .unset, .unset, .unset, .unset, .unset, .unset, .unset] [(.int (1 : Int32))])) _
    refine XT.lloadN X0.here hx rfl (hb hby at_8) rfl ?_
    show Steps p.tables e below (s₁.setTop (mkF m 9 #[.val (.long q0), .second, .val (.long q1), .second, .val (.long q2), .second, .val (.long q3), .second, .val (.int p4), .val (.int p5), .val (.int (1 : Int32)), .unset, .unset, .unset, .unset, .unset, .unset, .unset, .unset, .unset, .unset, .unset] [(.long q0), (.int (1 : Int32))])) _
    refine XT.lloadN X0.here hx rfl (hb hby at_9) rfl ?_
    show Steps p.tables e below (s₁.setTop (mkF m 10 #[.val (.long q0), .second, .val (.long q1), .second, .val (.long q2), .second, .val (.long q3), .second, .val (.int p4), .val (.int p5), .val (.int (1 : Int32)), .unset, .unset, .unset, .unset, .unset, .unset, .unset, .unset, .unset, .unset, .unset] [(.long q1), (.long q0), (.int (1 : Int32))])) _
    refine XT.lload X0.here hx rfl (hb hby at_10) rfl ?_
    show Steps p.tables e below (s₁.setTop (mkF m 12 #[.val (.long q0), .second, .val (.long q1), .second, .val (.long q2), .second, .val (.long q3), .second, .val (.int p4), .val (.int p5), .val (.int (1 : Int32)), .unset, .unset, .unset, .unset, .unset, .unset, .unset, .unset, .unset, .unset, .unset] [(.long q2), (.long q1), (.long q0), (.int (1 : Int32))])) _
    refine st1 _ ?_
    show Steps p.tables e below (T1.setTop (mkF m 15 #[.val (.long q0), .second, .val (.long q1), .second, .val (.long q2), .second, .val (.long q3), .second, .val (.int p4), .val (.int p5), .val (.int (1 : Int32)), .unset, .unset, .unset, .unset, .unset, .unset, .unset, .unset, .unset, .unset, .unset] [(.ref b1)])) _
    refine XS.astore X1.here hx rfl (hb hby at_15) rfl rfl (l' := #[.val (.long q0), .second, .val (.long q1), .second, .val (.long q2), .second, .val (.long q3), .second, .val (.int p4), .val (.int p5), .val (.int (1 : Int32)), .val (.ref b1), .unset, .unset, .unset, .unset, .unset, .unset, .unset, .unset, .unset, .unset]) rfl ?_
    show Steps p.tables e below (T1.setTop (mkF m 17 #[.val (.long q0), .second, .val (.long q1), .second, .val (.long q2), .second, .val (.long q3), .second, .val (.int p4), .val (.int p5), .val (.int (1 : Int32)), .val (.ref b1), .unset, .unset, .unset, .unset, .unset, .unset, .unset, .unset, .unset, .unset] [])) _
    refine XS.iload X1.here hx rfl (hb hby at_17) rfl ?_
    show Steps p.tables e below (T1.setTop (mkF m 19 #[.val (.long q0), .second, .val (.long q1), .second, .val (.long q2), .second, .val (.long q3), .second, .val (.int p4), .val (.int p5), .val (.int (1 : Int32)), .val (.ref b1), .unset, .unset, .unset, .unset, .unset, .unset, .unset, .unset, .unset, .unset] [(.int (1 : Int32))])) _
    refine XT.lloadN X1.here hx rfl (hb hby at_19) rfl ?_
    show Steps p.tables e below (T1.setTop (mkF m 20 #[.val (.long q0), .second, .val (.long q1), .second, .val (.long q2), .second, .val (.long q3), .second, .val (.int p4), .val (.int p5), .val (.int (1 : Int32)), .val (.ref b1), .unset, .unset, .unset, .unset, .unset, .unset, .unset, .unset, .unset, .unset] [(.long q0), (.int (1 : Int32))])) _
    refine XT.lloadN X1.here hx rfl (hb hby at_20) rfl ?_
    show Steps p.tables e below (T1.setTop (mkF m 21 #[.val (.long q0), .second, .val (.long q1), .second, .val (.long q2), .second, .val (.long q3), .second, .val (.int p4), .val (.int p5), .val (.int (1 : Int32)), .val (.ref b1), .unset, .unset, .unset, .unset, .unset, .unset, .unset, .unset, .unset, .unset] [(.long q1), (.long q0), (.int (1 : Int32))])) _
    refine XT.lload X1.here hx rfl (hb hby at_21) rfl ?_
    show Steps p.tables e below (T1.setTop (mkF m 23 #[.val (.long q0), .second, .val (.long q1), .second, .val (.long q2), .second, .val (.long q3), .second, .val (.int p4), .val (.int p5), .val (.int (1 : Int32)), .val (.ref b1), .unset, .unset, .unset, .unset, .unset, .unset, .unset, .unset, .unset, .unset] [(.long q2), (.long q1), (.long q0), (.int (1 : Int32))])) _
    refine st2 _ ?_
    show Steps p.tables e below (T2.setTop (mkF m 26 #[.val (.long q0), .second, .val (.long q1), .second, .val (.long q2), .second, .val (.long q3), .second, .val (.int p4), .val (.int p5), .val (.int (1 : Int32)), .val (.ref b1), .unset, .unset, .unset, .unset, .unset, .unset, .unset, .unset, .unset, .unset] [(.ref b2)])) _
    refine XS.astore X2.here hx rfl (hb hby at_26) rfl rfl (l' := #[.val (.long q0), .second, .val (.long q1), .second, .val (.long q2), .second, .val (.long q3), .second, .val (.int p4), .val (.int p5), .val (.int (1 : Int32)), .val (.ref b1), .val (.ref b2), .unset, .unset, .unset, .unset, .unset, .unset, .unset, .unset, .unset]) rfl ?_
    show Steps p.tables e below (T2.setTop (mkF m 28 #[.val (.long q0), .second, .val (.long q1), .second, .val (.long q2), .second, .val (.long q3), .second, .val (.int p4), .val (.int p5), .val (.int (1 : Int32)), .val (.ref b1), .val (.ref b2), .unset, .unset, .unset, .unset, .unset, .unset, .unset, .unset, .unset] [])) _
    refine XS.aload X2.here hx rfl (hb hby at_28) rfl rfl ?_
    show Steps p.tables e below (T2.setTop (mkF m 30 #[.val (.long q0), .second, .val (.long q1), .second, .val (.long q2), .second, .val (.long q3), .second, .val (.int p4), .val (.int p5), .val (.int (1 : Int32)), .val (.ref b1), .val (.ref b2), .unset, .unset, .unset, .unset, .unset, .unset, .unset, .unset, .unset] [(.ref b1)])) _
    refine st4 _ ?_
    show Steps p.tables e below (T4.setTop (mkF m 33 #[.val (.long q0), .second, .val (.long q1), .second, .val (.long q2), .second, .val (.long q3), .second, .val (.int p4), .val (.int p5), .val (.int (1 : Int32)), .val (.ref b1), .val (.ref b2), .unset, .unset, .unset, .unset, .unset, .unset, .unset, .unset, .unset] [(.long (own_fin (own_st (0) q0)))])) _
    refine XT.lstore X4.here hx rfl (hb hby at_33) rfl (l' := #[.val (.long q0), .second, .val (.long q1), .second, .val (.long q2), .second, .val (.long q3), .second, .val (.int p4), .val (.int p5), .val (.int (1 : Int32)), .val (.ref b1), .val (.ref b2), .val (.long (own_fin (own_st (0) q0))), .second, .unset, .unset, .unset, .unset, .unset, .unset, .unset]) rfl ?_
    show Steps p.tables e below (T4.setTop (mkF m 35 #[.val (.long q0), .second, .val (.long q1), .second, .val (.long q2), .second, .val (.long q3), .second, .val (.int p4), .val (.int p5), .val (.int (1 : Int32)), .val (.ref b1), .val (.ref b2), .val (.long (own_fin (own_st (0) q0))), .second, .unset, .unset, .unset, .unset, .unset, .unset, .unset] [])) _
    refine XT.lload X4.here hx rfl (hb hby at_35) rfl ?_
    show Steps p.tables e below (T4.setTop (mkF m 37 #[.val (.long q0), .second, .val (.long q1), .second, .val (.long q2), .second, .val (.long q3), .second, .val (.int p4), .val (.int p5), .val (.int (1 : Int32)), .val (.ref b1), .val (.ref b2), .val (.long (own_fin (own_st (0) q0))), .second, .unset, .unset, .unset, .unset, .unset, .unset, .unset] [(.long (own_fin (own_st (0) q0)))])) _
    refine XS.aload X4.here hx rfl (hb hby at_37) rfl rfl ?_
    show Steps p.tables e below (T4.setTop (mkF m 39 #[.val (.long q0), .second, .val (.long q1), .second, .val (.long q2), .second, .val (.long q3), .second, .val (.int p4), .val (.int p5), .val (.int (1 : Int32)), .val (.ref b1), .val (.ref b2), .val (.long (own_fin (own_st (0) q0))), .second, .unset, .unset, .unset, .unset, .unset, .unset, .unset] [(.ref b2), (.long (own_fin (own_st (0) q0)))])) _
    refine st5 _ ?_
    show Steps p.tables e below (T5.setTop (mkF m 42 #[.val (.long q0), .second, .val (.long q1), .second, .val (.long q2), .second, .val (.long q3), .second, .val (.int p4), .val (.int p5), .val (.int (1 : Int32)), .val (.ref b1), .val (.ref b2), .val (.long (own_fin (own_st (0) q0))), .second, .unset, .unset, .unset, .unset, .unset, .unset, .unset] [(.long (own_fin (own_st (0) q0))), (.long (own_fin (own_st (0) q0)))])) _
    refine XT.lcmp X5.here hx rfl (hb hby at_42) rfl ?_
    show Steps p.tables e below (T5.setTop (mkF m 43 #[.val (.long q0), .second, .val (.long q1), .second, .val (.long q2), .second, .val (.long q3), .second, .val (.int p4), .val (.int p5), .val (.int (1 : Int32)), .val (.ref b1), .val (.ref b2), .val (.long (own_fin (own_st (0) q0))), .second, .unset, .unset, .unset, .unset, .unset, .unset, .unset] [(.int (XT.cmpL (own_fin (own_st (0) q0)) (own_fin (own_st (0) q0))))])) _
    refine XS.ifNo X5.here hx rfl (hb hby at_43) rfl (XT.ll_ne_f rfl) ?_
    show Steps p.tables e below (T5.setTop (mkF m 46 #[.val (.long q0), .second, .val (.long q1), .second, .val (.long q2), .second, .val (.long q3), .second, .val (.int p4), .val (.int p5), .val (.int (1 : Int32)), .val (.ref b1), .val (.ref b2), .val (.long (own_fin (own_st (0) q0))), .second, .unset, .unset, .unset, .unset, .unset, .unset, .unset] [])) _
    refine XS.aload X5.here hx rfl (hb hby at_46) rfl rfl ?_
    show Steps p.tables e below (T5.setTop (mkF m 48 #[.val (.long q0), .second, .val (.long q1), .second, .val (.long q2), .second, .val (.long q3), .second, .val (.int p4), .val (.int p5), .val (.int (1 : Int32)), .val (.ref b1), .val (.ref b2), .val (.long (own_fin (own_st (0) q0))), .second, .unset, .unset, .unset, .unset, .unset, .unset, .unset] [(.ref b1)])) _
    refine XS.iload X5.here hx rfl (hb hby at_48) rfl ?_
    show Steps p.tables e below (T5.setTop (mkF m 50 #[.val (.long q0), .second, .val (.long q1), .second, .val (.long q2), .second, .val (.long q3), .second, .val (.int p4), .val (.int p5), .val (.int (1 : Int32)), .val (.ref b1), .val (.ref b2), .val (.long (own_fin (own_st (0) q0))), .second, .unset, .unset, .unset, .unset, .unset, .unset, .unset] [(.int (1 : Int32)), (.ref b1)])) _
    refine XT.lloadN X5.here hx rfl (hb hby at_50) rfl ?_
    show Steps p.tables e below (T5.setTop (mkF m 51 #[.val (.long q0), .second, .val (.long q1), .second, .val (.long q2), .second, .val (.long q3), .second, .val (.int p4), .val (.int p5), .val (.int (1 : Int32)), .val (.ref b1), .val (.ref b2), .val (.long (own_fin (own_st (0) q0))), .second, .unset, .unset, .unset, .unset, .unset, .unset, .unset] [(.long q0), (.int (1 : Int32)), (.ref b1)])) _
    refine XT.lloadN X5.here hx rfl (hb hby at_51) rfl ?_
    show Steps p.tables e below (T5.setTop (mkF m 52 #[.val (.long q0), .second, .val (.long q1), .second, .val (.long q2), .second, .val (.long q3), .second, .val (.int p4), .val (.int p5), .val (.int (1 : Int32)), .val (.ref b1), .val (.ref b2), .val (.long (own_fin (own_st (0) q0))), .second, .unset, .unset, .unset, .unset, .unset, .unset, .unset] [(.long q1), (.long q0), (.int (1 : Int32)), (.ref b1)])) _
    refine XT.lload X5.here hx rfl (hb hby at_52) rfl ?_
    show Steps p.tables e below (T5.setTop (mkF m 54 #[.val (.long q0), .second, .val (.long q1), .second, .val (.long q2), .second, .val (.long q3), .second, .val (.int p4), .val (.int p5), .val (.int (1 : Int32)), .val (.ref b1), .val (.ref b2), .val (.long (own_fin (own_st (0) q0))), .second, .unset, .unset, .unset, .unset, .unset, .unset, .unset] [(.long q2), (.long q1), (.long q0), (.int (1 : Int32)), (.ref b1)])) _
    refine st6 _ ?_
    show Steps p.tables e below (T6.setTop (mkF m 57 #[.val (.long q0), .second, .val (.long q1), .second, .val (.long q2), .second, .val (.long q3), .second, .val (.int p4), .val (.int p5), .val (.int (1 : Int32)), .val (.ref b1), .val (.ref b2), .val (.long (own_fin (own_st (0) q0))), .second, .unset, .unset, .unset, .unset, .unset, .unset, .unset] [(.int (1 : Int32))])) _
    refine XS.ifNo X6.here hx rfl (hb hby at_57) rfl (XT.i0_eq_f (by decide)) ?_
    show Steps p.tables e below (T6.setTop (mkF m 60 #[.val (.long q0), .second, .val (.long q1), .second, .val (.long q2), .second, .val (.long q3), .second, .val (.int p4), .val (.int p5), .val (.int (1 : Int32)), .val (.ref b1), .val (.ref b2), .val (.long (own_fin (own_st (0) q0))), .second, .unset, .unset, .unset, .unset, .unset, .unset, .unset] [])) _
    refine XT.iconstV X6.here hx rfl (1 : Int32) (hb hby at_60) (by decide) ?_
    show Steps p.tables e below (T6.setTop (mkF m 61 #[.val (.long q0), .second, .val (.long q1), .second, .val (.long q2), .second, .val (.long q3), .second, .val (.int p4), .val (.int p5), .val (.int (1 : Int32)), .val (.ref b1), .val (.ref b2), .val (.long (own_fin (own_st (0) q0))), .second, .unset, .unset, .unset, .unset, .unset, .unset, .unset] [(.int (1 : Int32))])) _
    refine XS.goto X6.here hx rfl (pc0 := 61) (pc' := 65) rfl (hb hby at_61) (by decide) (by decide) ?_
    show Steps p.tables e below (T6.setTop (mkF m 65 #[.val (.long q0), .second, .val (.long q1), .second, .val (.long q2), .second, .val (.long q3), .second, .val (.int p4), .val (.int p5), .val (.int (1 : Int32)), .val (.ref b1), .val (.ref b2), .val (.long (own_fin (own_st (0) q0))), .second, .unset, .unset, .unset, .unset, .unset, .unset, .unset] [(.int (1 : Int32))])) _
    refine XS.istore X6.here hx rfl (hb hby at_65) rfl (l' := #[.val (.long q0), .second, .val (.long q1), .second, .val (.long q2), .second, .val (.long q3), .second, .val (.int p4), .val (.int p5), .val (.int (1 : Int32)), .val (.ref b1), .val (.ref b2), .val (.long (own_fin (own_st (0) q0))), .second, .val (.int (1 : Int32)), .unset, .unset, .unset, .unset, .unset, .unset]) rfl ?_
    show Steps p.tables e below (T6.setTop (mkF m 67 #[.val (.long q0), .second, .val (.long q1), .second, .val (.long q2), .second, .val (.long q3), .second, .val (.int p4), .val (.int p5), .val (.int (1 : Int32)), .val (.ref b1), .val (.ref b2), .val (.long (own_fin (own_st (0) q0))), .second, .val (.int (1 : Int32)), .unset, .unset, .unset, .unset, .unset, .unset] [])) _
    refine XS.iload X6.here hx rfl (hb hby at_67) rfl ?_
    show Steps p.tables e below (T6.setTop (mkF m 69 #[.val (.long q0), .second, .val (.long q1), .second, .val (.long q2), .second, .val (.long q3), .second, .val (.int p4), .val (.int p5), .val (.int (1 : Int32)), .val (.ref b1), .val (.ref b2), .val (.long (own_fin (own_st (0) q0))), .second, .val (.int (1 : Int32)), .unset, .unset, .unset, .unset, .unset, .unset] [(.int (1 : Int32))])) _
    refine XS.ifYes X6.here hx rfl (pc0 := 69) (pc' := 75) rfl (hb hby at_69) rfl (XT.i0_ne_t (by decide)) (by decide) (by decide) ?_
    show Steps p.tables e below (T6.setTop (mkF m 75 #[.val (.long q0), .second, .val (.long q1), .second, .val (.long q2), .second, .val (.long q3), .second, .val (.int p4), .val (.int p5), .val (.int (1 : Int32)), .val (.ref b1), .val (.ref b2), .val (.long (own_fin (own_st (0) q0))), .second, .val (.int (1 : Int32)), .unset, .unset, .unset, .unset, .unset, .unset] [])) _
    refine XS.iload X6.here hx rfl (hb hby at_75) rfl ?_
    show Steps p.tables e below (T6.setTop (mkF m 77 #[.val (.long q0), .second, .val (.long q1), .second, .val (.long q2), .second, .val (.long q3), .second, .val (.int p4), .val (.int p5), .val (.int (1 : Int32)), .val (.ref b1), .val (.ref b2), .val (.long (own_fin (own_st (0) q0))), .second, .val (.int (1 : Int32)), .unset, .unset, .unset, .unset, .unset, .unset] [(.int p5)])) _
    refine X6.ldcI hx hown (mvT hZ (hw _ (List.mem_of_getElem? (i := 14) rfl))) rfl (hb hby at_77) ?_
    show Steps p.tables e below (T6.setTop (mkF m 79 #[.val (.long q0), .second, .val (.long q1), .second, .val (.long q2), .second, .val (.long q3), .second, .val (.int p4), .val (.int p5), .val (.int (1 : Int32)), .val (.ref b1), .val (.ref b2), .val (.long (own_fin (own_st (0) q0))), .second, .val (.int (1 : Int32)), .unset, .unset, .unset, .unset, .unset, .unset] [(.int (2147483647 : Int32)), (.int p5)])) _
    refine XS.iand X6.here hx rfl (hb hby at_79) rfl ?_
    show Steps p.tables e below (T6.setTop (mkF m 80 #[.val (.long q0), .second, .val (.long q1), .second, .val (.long q2), .second, .val (.long q3), .second, .val (.int p4), .val (.int p5), .val (.int (1 : Int32)), .val (.ref b1), .val (.ref b2), .val (.long (own_fin (own_st (0) q0))), .second, .val (.int (1 : Int32)), .unset, .unset, .unset, .unset, .unset, .unset] [(.int (p5 &&& (2147483647 : Int32)))])) _
    refine XS.iload X6.here hx rfl (hb hby at_80) rfl ?_
    show Steps p.tables e below (T6.setTop (mkF m 82 #[.val (.long q0), .second, .val (.long q1), .second, .val (.long q2), .second, .val (.long q3), .second, .val (.int p4), .val (.int p5), .val (.int (1 : Int32)), .val (.ref b1), .val (.ref b2), .val (.long (own_fin (own_st (0) q0))), .second, .val (.int (1 : Int32)), .unset, .unset, .unset, .unset, .unset, .unset] [(.int (1 : Int32)), (.int (p5 &&& (2147483647 : Int32)))])) _
    refine XS.irem X6.here hx rfl (hb hby at_82) rfl (by decide) ?_
    show Steps p.tables e below (T6.setTop (mkF m 83 #[.val (.long q0), .second, .val (.long q1), .second, .val (.long q2), .second, .val (.long q3), .second, .val (.int p4), .val (.int p5), .val (.int (1 : Int32)), .val (.ref b1), .val (.ref b2), .val (.long (own_fin (own_st (0) q0))), .second, .val (.int (1 : Int32)), .unset, .unset, .unset, .unset, .unset, .unset] [(.int ((p5 &&& (2147483647 : Int32)) - ((p5 &&& (2147483647 : Int32)) / (1 : Int32)) * (1 : Int32)))])) _
    show Steps p.tables e below (T6.setTop (mkF m 83 #[.val (.long q0), .second, .val (.long q1), .second, .val (.long q2), .second, .val (.long q3), .second, .val (.int p4), .val (.int p5), .val (.int (1 : Int32)), .val (.ref b1), .val (.ref b2), .val (.long (own_fin (own_st (0) q0))), .second, .val (.int (1 : Int32)), .unset, .unset, .unset, .unset, .unset, .unset] [(.int (own_P p5 (1 : Int32)))])) _
    show Steps p.tables e below (T6.setTop (mkF m 83 #[.val (.long q0), .second, .val (.long q1), .second, .val (.long q2), .second, .val (.long q3), .second, .val (.int p4), .val (.int p5), .val (.int (1 : Int32)), .val (.ref b1), .val (.ref b2), .val (.long (own_fin (own_st (0) q0))), .second, .val (.int (1 : Int32)), .unset, .unset, .unset, .unset, .unset, .unset] [(.int (own_P p5 (1 : Int32)))])) _
    refine XS.istore X6.here hx rfl (hb hby at_83) rfl (l' := #[.val (.long q0), .second, .val (.long q1), .second, .val (.long q2), .second, .val (.long q3), .second, .val (.int p4), .val (.int p5), .val (.int (1 : Int32)), .val (.ref b1), .val (.ref b2), .val (.long (own_fin (own_st (0) q0))), .second, .val (.int (1 : Int32)), .val (.int (own_P p5 (1 : Int32))), .unset, .unset, .unset, .unset, .unset]) rfl ?_
    show Steps p.tables e below (T6.setTop (mkF m 85 #[.val (.long q0), .second, .val (.long q1), .second, .val (.long q2), .second, .val (.long q3), .second, .val (.int p4), .val (.int p5), .val (.int (1 : Int32)), .val (.ref b1), .val (.ref b2), .val (.long (own_fin (own_st (0) q0))), .second, .val (.int (1 : Int32)), .val (.int (own_P p5 (1 : Int32))), .unset, .unset, .unset, .unset, .unset] [])) _
    refine XS.iload X6.here hx rfl (hb hby at_85) rfl ?_
    show Steps p.tables e below (T6.setTop (mkF m 87 #[.val (.long q0), .second, .val (.long q1), .second, .val (.long q2), .second, .val (.long q3), .second, .val (.int p4), .val (.int p5), .val (.int (1 : Int32)), .val (.ref b1), .val (.ref b2), .val (.long (own_fin (own_st (0) q0))), .second, .val (.int (1 : Int32)), .val (.int (own_P p5 (1 : Int32))), .unset, .unset, .unset, .unset, .unset] [(.int (own_P p5 (1 : Int32)))])) _
    refine XS.ifNo X6.here hx rfl (hb hby at_87) rfl (XT.i0_ne_f (own_P1 p5)) ?_
    show Steps p.tables e below (T6.setTop (mkF m 90 #[.val (.long q0), .second, .val (.long q1), .second, .val (.long q2), .second, .val (.long q3), .second, .val (.int p4), .val (.int p5), .val (.int (1 : Int32)), .val (.ref b1), .val (.ref b2), .val (.long (own_fin (own_st (0) q0))), .second, .val (.int (1 : Int32)), .val (.int (own_P p5 (1 : Int32))), .unset, .unset, .unset, .unset, .unset] [])) _
    refine XT.lloadN X6.here hx rfl (hb hby at_90) rfl ?_
    show Steps p.tables e below (T6.setTop (mkF m 91 #[.val (.long q0), .second, .val (.long q1), .second, .val (.long q2), .second, .val (.long q3), .second, .val (.int p4), .val (.int p5), .val (.int (1 : Int32)), .val (.ref b1), .val (.ref b2), .val (.long (own_fin (own_st (0) q0))), .second, .val (.int (1 : Int32)), .val (.int (own_P p5 (1 : Int32))), .unset, .unset, .unset, .unset, .unset] [(.long q0)])) _
    refine XS.goto X6.here hx rfl (pc0 := 91) (pc' := 106) rfl (hb hby at_91) (by decide) (by decide) ?_
    show Steps p.tables e below (T6.setTop (mkF m 106 #[.val (.long q0), .second, .val (.long q1), .second, .val (.long q2), .second, .val (.long q3), .second, .val (.int p4), .val (.int p5), .val (.int (1 : Int32)), .val (.ref b1), .val (.ref b2), .val (.long (own_fin (own_st (0) q0))), .second, .val (.int (1 : Int32)), .val (.int (own_P p5 (1 : Int32))), .unset, .unset, .unset, .unset, .unset] [(.long q0)])) _
    refine XT.lstore X6.here hx rfl (hb hby at_106) rfl (l' := #[.val (.long q0), .second, .val (.long q1), .second, .val (.long q2), .second, .val (.long q3), .second, .val (.int p4), .val (.int p5), .val (.int (1 : Int32)), .val (.ref b1), .val (.ref b2), .val (.long (own_fin (own_st (0) q0))), .second, .val (.int (1 : Int32)), .val (.int (own_P p5 (1 : Int32))), .val (.long q0), .second, .unset, .unset, .unset]) rfl ?_
    show Steps p.tables e below (T6.setTop (mkF m 108 #[.val (.long q0), .second, .val (.long q1), .second, .val (.long q2), .second, .val (.long q3), .second, .val (.int p4), .val (.int p5), .val (.int (1 : Int32)), .val (.ref b1), .val (.ref b2), .val (.long (own_fin (own_st (0) q0))), .second, .val (.int (1 : Int32)), .val (.int (own_P p5 (1 : Int32))), .val (.long q0), .second, .unset, .unset, .unset] [])) _
    refine XS.iload X6.here hx rfl (hb hby at_108) rfl ?_
    show Steps p.tables e below (T6.setTop (mkF m 110 #[.val (.long q0), .second, .val (.long q1), .second, .val (.long q2), .second, .val (.long q3), .second, .val (.int p4), .val (.int p5), .val (.int (1 : Int32)), .val (.ref b1), .val (.ref b2), .val (.long (own_fin (own_st (0) q0))), .second, .val (.int (1 : Int32)), .val (.int (own_P p5 (1 : Int32))), .val (.long q0), .second, .unset, .unset, .unset] [(.int (1 : Int32))])) _
    refine XS.iload X6.here hx rfl (hb hby at_110) rfl ?_
    show Steps p.tables e below (T6.setTop (mkF m 112 #[.val (.long q0), .second, .val (.long q1), .second, .val (.long q2), .second, .val (.long q3), .second, .val (.int p4), .val (.int p5), .val (.int (1 : Int32)), .val (.ref b1), .val (.ref b2), .val (.long (own_fin (own_st (0) q0))), .second, .val (.int (1 : Int32)), .val (.int (own_P p5 (1 : Int32))), .val (.long q0), .second, .unset, .unset, .unset] [(.int (own_P p5 (1 : Int32))), (.int (1 : Int32))])) _
    refine XS.ifNo X6.here hx rfl (hb hby at_112) rfl (XT.i0_ne_f (own_P1 p5)) ?_
    show Steps p.tables e below (T6.setTop (mkF m 115 #[.val (.long q0), .second, .val (.long q1), .second, .val (.long q2), .second, .val (.long q3), .second, .val (.int p4), .val (.int p5), .val (.int (1 : Int32)), .val (.ref b1), .val (.ref b2), .val (.long (own_fin (own_st (0) q0))), .second, .val (.int (1 : Int32)), .val (.int (own_P p5 (1 : Int32))), .val (.long q0), .second, .unset, .unset, .unset] [(.int (1 : Int32))])) _
    refine XT.lload X6.here hx rfl (hb hby at_115) rfl ?_
    show Steps p.tables e below (T6.setTop (mkF m 117 #[.val (.long q0), .second, .val (.long q1), .second, .val (.long q2), .second, .val (.long q3), .second, .val (.int p4), .val (.int p5), .val (.int (1 : Int32)), .val (.ref b1), .val (.ref b2), .val (.long (own_fin (own_st (0) q0))), .second, .val (.int (1 : Int32)), .val (.int (own_P p5 (1 : Int32))), .val (.long q0), .second, .unset, .unset, .unset] [(.long q3), (.int (1 : Int32))])) _
    refine XS.goto X6.here hx rfl (pc0 := 117) (pc' := 121) rfl (hb hby at_117) (by decide) (by decide) ?_
    show Steps p.tables e below (T6.setTop (mkF m 121 #[.val (.long q0), .second, .val (.long q1), .second, .val (.long q2), .second, .val (.long q3), .second, .val (.int p4), .val (.int p5), .val (.int (1 : Int32)), .val (.ref b1), .val (.ref b2), .val (.long (own_fin (own_st (0) q0))), .second, .val (.int (1 : Int32)), .val (.int (own_P p5 (1 : Int32))), .val (.long q0), .second, .unset, .unset, .unset] [(.long q3), (.int (1 : Int32))])) _
    refine XS.iload X6.here hx rfl (hb hby at_121) rfl ?_
    show Steps p.tables e below (T6.setTop (mkF m 123 #[.val (.long q0), .second, .val (.long q1), .second, .val (.long q2), .second, .val (.long q3), .second, .val (.int p4), .val (.int p5), .val (.int (1 : Int32)), .val (.ref b1), .val (.ref b2), .val (.long (own_fin (own_st (0) q0))), .second, .val (.int (1 : Int32)), .val (.int (own_P p5 (1 : Int32))), .val (.long q0), .second, .unset, .unset, .unset] [(.int (own_P p5 (1 : Int32))), (.long q3), (.int (1 : Int32))])) _
    refine XT.iconstV X6.here hx rfl (1 : Int32) (hb hby at_123) (by decide) ?_
    show Steps p.tables e below (T6.setTop (mkF m 124 #[.val (.long q0), .second, .val (.long q1), .second, .val (.long q2), .second, .val (.long q3), .second, .val (.int p4), .val (.int p5), .val (.int (1 : Int32)), .val (.ref b1), .val (.ref b2), .val (.long (own_fin (own_st (0) q0))), .second, .val (.int (1 : Int32)), .val (.int (own_P p5 (1 : Int32))), .val (.long q0), .second, .unset, .unset, .unset] [(.int (1 : Int32)), (.int (own_P p5 (1 : Int32))), (.long q3), (.int (1 : Int32))])) _
    refine XS.icmpYes X6.here hx rfl (pc0 := 124) (pc' := 132) rfl (hb hby at_124) rfl (XT.ii_ne_t (by rw [own_P1]; decide)) (by decide) (by decide) ?_
    show Steps p.tables e below (T6.setTop (mkF m 132 #[.val (.long q0), .second, .val (.long q1), .second, .val (.long q2), .second, .val (.long q3), .second, .val (.int p4), .val (.int p5), .val (.int (1 : Int32)), .val (.ref b1), .val (.ref b2), .val (.long (own_fin (own_st (0) q0))), .second, .val (.int (1 : Int32)), .val (.int (own_P p5 (1 : Int32))), .val (.long q0), .second, .unset, .unset, .unset] [(.long q3), (.int (1 : Int32))])) _
    refine XT.lloadN X6.here hx rfl (hb hby at_132) rfl ?_
    show Steps p.tables e below (T6.setTop (mkF m 133 #[.val (.long q0), .second, .val (.long q1), .second, .val (.long q2), .second, .val (.long q3), .second, .val (.int p4), .val (.int p5), .val (.int (1 : Int32)), .val (.ref b1), .val (.ref b2), .val (.long (own_fin (own_st (0) q0))), .second, .val (.int (1 : Int32)), .val (.int (own_P p5 (1 : Int32))), .val (.long q0), .second, .unset, .unset, .unset] [(.long q1), (.long q3), (.int (1 : Int32))])) _
    refine XS.iload X6.here hx rfl (hb hby at_133) rfl ?_
    show Steps p.tables e below (T6.setTop (mkF m 135 #[.val (.long q0), .second, .val (.long q1), .second, .val (.long q2), .second, .val (.long q3), .second, .val (.int p4), .val (.int p5), .val (.int (1 : Int32)), .val (.ref b1), .val (.ref b2), .val (.long (own_fin (own_st (0) q0))), .second, .val (.int (1 : Int32)), .val (.int (own_P p5 (1 : Int32))), .val (.long q0), .second, .unset, .unset, .unset] [(.int (own_P p5 (1 : Int32))), (.long q1), (.long q3), (.int (1 : Int32))])) _
    refine XT.iconstV X6.here hx rfl (2 : Int32) (hb hby at_135) (by decide) ?_
    show Steps p.tables e below (T6.setTop (mkF m 136 #[.val (.long q0), .second, .val (.long q1), .second, .val (.long q2), .second, .val (.long q3), .second, .val (.int p4), .val (.int p5), .val (.int (1 : Int32)), .val (.ref b1), .val (.ref b2), .val (.long (own_fin (own_st (0) q0))), .second, .val (.int (1 : Int32)), .val (.int (own_P p5 (1 : Int32))), .val (.long q0), .second, .unset, .unset, .unset] [(.int (2 : Int32)), (.int (own_P p5 (1 : Int32))), (.long q1), (.long q3), (.int (1 : Int32))])) _
    refine XS.icmpYes X6.here hx rfl (pc0 := 136) (pc' := 144) rfl (hb hby at_136) rfl (XT.ii_ne_t (by rw [own_P1]; decide)) (by decide) (by decide) ?_
    show Steps p.tables e below (T6.setTop (mkF m 144 #[.val (.long q0), .second, .val (.long q1), .second, .val (.long q2), .second, .val (.long q3), .second, .val (.int p4), .val (.int p5), .val (.int (1 : Int32)), .val (.ref b1), .val (.ref b2), .val (.long (own_fin (own_st (0) q0))), .second, .val (.int (1 : Int32)), .val (.int (own_P p5 (1 : Int32))), .val (.long q0), .second, .unset, .unset, .unset] [(.long q1), (.long q3), (.int (1 : Int32))])) _
    refine XT.lload X6.here hx rfl (hb hby at_144) rfl ?_
    show Steps p.tables e below (T6.setTop (mkF m 146 #[.val (.long q0), .second, .val (.long q1), .second, .val (.long q2), .second, .val (.long q3), .second, .val (.int p4), .val (.int p5), .val (.int (1 : Int32)), .val (.ref b1), .val (.ref b2), .val (.long (own_fin (own_st (0) q0))), .second, .val (.int (1 : Int32)), .val (.int (own_P p5 (1 : Int32))), .val (.long q0), .second, .unset, .unset, .unset] [(.long q2), (.long q1), (.long q3), (.int (1 : Int32))])) _
    refine st7 _ ?_
    show Steps p.tables e below (T7.setTop (mkF m 149 #[.val (.long q0), .second, .val (.long q1), .second, .val (.long q2), .second, .val (.long q3), .second, .val (.int p4), .val (.int p5), .val (.int (1 : Int32)), .val (.ref b1), .val (.ref b2), .val (.long (own_fin (own_st (0) q0))), .second, .val (.int (1 : Int32)), .val (.int (own_P p5 (1 : Int32))), .val (.long q0), .second, .unset, .unset, .unset] [(.ref b7)])) _
    refine XS.astore X7.here hx rfl (hb hby at_149) rfl rfl (l' := #[.val (.long q0), .second, .val (.long q1), .second, .val (.long q2), .second, .val (.long q3), .second, .val (.int p4), .val (.int p5), .val (.int (1 : Int32)), .val (.ref b1), .val (.ref b2), .val (.long (own_fin (own_st (0) q0))), .second, .val (.int (1 : Int32)), .val (.int (own_P p5 (1 : Int32))), .val (.long q0), .second, .val (.ref b7), .unset, .unset]) rfl ?_
    show Steps p.tables e below (T7.setTop (mkF m 151 #[.val (.long q0), .second, .val (.long q1), .second, .val (.long q2), .second, .val (.long q3), .second, .val (.int p4), .val (.int p5), .val (.int (1 : Int32)), .val (.ref b1), .val (.ref b2), .val (.long (own_fin (own_st (0) q0))), .second, .val (.int (1 : Int32)), .val (.int (own_P p5 (1 : Int32))), .val (.long q0), .second, .val (.ref b7), .unset, .unset] [])) _
    refine XS.aload X7.here hx rfl (hb hby at_151) rfl rfl ?_
    show Steps p.tables e below (T7.setTop (mkF m 153 #[.val (.long q0), .second, .val (.long q1), .second, .val (.long q2), .second, .val (.long q3), .second, .val (.int p4), .val (.int p5), .val (.int (1 : Int32)), .val (.ref b1), .val (.ref b2), .val (.long (own_fin (own_st (0) q0))), .second, .val (.int (1 : Int32)), .val (.int (own_P p5 (1 : Int32))), .val (.long q0), .second, .val (.ref b7), .unset, .unset] [(.ref b7)])) _
    refine st8 _ ?_
    show Steps p.tables e below (T8.setTop (mkF m 156 #[.val (.long q0), .second, .val (.long q1), .second, .val (.long q2), .second, .val (.long q3), .second, .val (.int p4), .val (.int p5), .val (.int (1 : Int32)), .val (.ref b1), .val (.ref b2), .val (.long (own_fin (own_st (0) q0))), .second, .val (.int (1 : Int32)), .val (.int (own_P p5 (1 : Int32))), .val (.long q0), .second, .val (.ref b7), .unset, .unset] [(.long (own_fin (own_st (0) q3)))])) _
    refine XT.lstore X8.here hx rfl (hb hby at_156) rfl (l' := #[.val (.long q0), .second, .val (.long q1), .second, .val (.long q2), .second, .val (.long q3), .second, .val (.int p4), .val (.int p5), .val (.int (1 : Int32)), .val (.ref b1), .val (.ref b2), .val (.long (own_fin (own_st (0) q0))), .second, .val (.int (1 : Int32)), .val (.int (own_P p5 (1 : Int32))), .val (.long q0), .second, .val (.ref b7), .val (.long (own_fin (own_st (0) q3))), .second]) rfl ?_
    show Steps p.tables e below (T8.setTop (mkF m 158 #[.val (.long q0), .second, .val (.long q1), .second, .val (.long q2), .second, .val (.long q3), .second, .val (.int p4), .val (.int p5), .val (.int (1 : Int32)), .val (.ref b1), .val (.ref b2), .val (.long (own_fin (own_st (0) q0))), .second, .val (.int (1 : Int32)), .val (.int (own_P p5 (1 : Int32))), .val (.long q0), .second, .val (.ref b7), .val (.long (own_fin (own_st (0) q3))), .second] [])) _
    refine XS.iload X8.here hx rfl (hb hby at_158) rfl ?_
    show Steps p.tables e below (T8.setTop (mkF m 160 #[.val (.long q0), .second, .val (.long q1), .second, .val (.long q2), .second, .val (.long q3), .second, .val (.int p4), .val (.int p5), .val (.int (1 : Int32)), .val (.ref b1), .val (.ref b2), .val (.long (own_fin (own_st (0) q0))), .second, .val (.int (1 : Int32)), .val (.int (own_P p5 (1 : Int32))), .val (.long q0), .second, .val (.ref b7), .val (.long (own_fin (own_st (0) q3))), .second] [(.int (1 : Int32))])) _
    refine XS.ifNo X8.here hx rfl (hb hby at_160) rfl (XT.i0_eq_f (by decide)) ?_
    show Steps p.tables e below (T8.setTop (mkF m 163 #[.val (.long q0), .second, .val (.long q1), .second, .val (.long q2), .second, .val (.long q3), .second, .val (.int p4), .val (.int p5), .val (.int (1 : Int32)), .val (.ref b1), .val (.ref b2), .val (.long (own_fin (own_st (0) q0))), .second, .val (.int (1 : Int32)), .val (.int (own_P p5 (1 : Int32))), .val (.long q0), .second, .val (.ref b7), .val (.long (own_fin (own_st (0) q3))), .second] [])) _
    refine XT.lload X8.here hx rfl (hb hby at_163) rfl ?_
    show Steps p.tables e below (T8.setTop (mkF m 165 #[.val (.long q0), .second, .val (.long q1), .second, .val (.long q2), .second, .val (.long q3), .second, .val (.int p4), .val (.int p5), .val (.int (1 : Int32)), .val (.ref b1), .val (.ref b2), .val (.long (own_fin (own_st (0) q0))), .second, .val (.int (1 : Int32)), .val (.int (own_P p5 (1 : Int32))), .val (.long q0), .second, .val (.ref b7), .val (.long (own_fin (own_st (0) q3))), .second] [(.long (own_fin (own_st (0) q0)))])) _
    refine XT.lload X8.here hx rfl (hb hby at_165) rfl ?_
    show Steps p.tables e below (T8.setTop (mkF m 167 #[.val (.long q0), .second, .val (.long q1), .second, .val (.long q2), .second, .val (.long q3), .second, .val (.int p4), .val (.int p5), .val (.int (1 : Int32)), .val (.ref b1), .val (.ref b2), .val (.long (own_fin (own_st (0) q0))), .second, .val (.int (1 : Int32)), .val (.int (own_P p5 (1 : Int32))), .val (.long q0), .second, .val (.ref b7), .val (.long (own_fin (own_st (0) q3))), .second] [(.long (own_fin (own_st (0) q3))), (.long (own_fin (own_st (0) q0)))])) _
    refine XT.lcmp X8.here hx rfl (hb hby at_167) rfl ?_
    show Steps p.tables e below (T8.setTop (mkF m 168 #[.val (.long q0), .second, .val (.long q1), .second, .val (.long q2), .second, .val (.long q3), .second, .val (.int p4), .val (.int p5), .val (.int (1 : Int32)), .val (.ref b1), .val (.ref b2), .val (.long (own_fin (own_st (0) q0))), .second, .val (.int (1 : Int32)), .val (.int (own_P p5 (1 : Int32))), .val (.long q0), .second, .val (.ref b7), .val (.long (own_fin (own_st (0) q3))), .second] [(.int (XT.cmpL (own_fin (own_st (0) q0)) (own_fin (own_st (0) q3))))])) _
    exact k)
  by_cases hc168_10 : (own_fin (own_st (0) q0)) = (own_fin (own_st (0) q3))
  · have S11 : ∀ t, Steps p.tables e below (T8.setTop (mkF m 197 #[.val (.long q0), .second, .val (.long q1), .second, .val (.long q2), .second, .val (.long q3), .second, .val (.int p4), .val (.int p5), .val (.int (1 : Int32)), .val (.ref b1), .val (.ref b2), .val (.long (own_fin (own_st (0) q0))), .second, .val (.int (1 : Int32)), .val (.int (own_P p5 (1 : Int32))), .val (.long q0), .second, .val (.ref b7), .val (.long (own_fin (own_st (0) q3))), .second] [(.int (1 : Int32))])) t → Steps p.tables e below (s₁.setTop (mkF m 0 #[.val (.long q0), .second, .val (.long q1), .second, .val (.long q2), .second, .val (.long q3), .second, .val (.int p4), .val (.int p5), .unset, .unset, .unset, .unset, .unset, .unset, .unset, .unset, .unset, .unset, .unset, .unset] [])) t := fun t k => S9 t (by
      show Steps p.tables e below (T8.setTop (mkF m 168 #[.val (.long q0), .second, .val (.long q1), .second, .val (.long q2), .second, .val (.long q3), .second, .val (.int p4), .val (.int p5), .val (.int (1 : Int32)), .val (.ref b1), .val (.ref b2), .val (.long (own_fin (own_st (0) q0))), .second, .val (.int (1 : Int32)), .val (.int (own_P p5 (1 : Int32))), .val (.long q0), .second, .val (.ref b7), .val (.long (own_fin (own_st (0) q3))), .second] [(.int (XT.cmpL (own_fin (own_st (0) q0)) (own_fin (own_st (0) q3))))])) _
      refine XS.ifNo X8.here hx rfl (hb hby at_168) rfl (XT.ll_ne_f hc168_10) ?_
      show Steps p.tables e below (T8.setTop (mkF m 171 #[.val (.long q0), .second, .val (.long q1), .second, .val (.long q2), .second, .val (.long q3), .second, .val (.int p4), .val (.int p5), .val (.int (1 : Int32)), .val (.ref b1), .val (.ref b2), .val (.long (own_fin (own_st (0) q0))), .second, .val (.int (1 : Int32)), .val (.int (own_P p5 (1 : Int32))), .val (.long q0), .second, .val (.ref b7), .val (.long (own_fin (own_st (0) q3))), .second] [])) _
      refine XT.iconstV X8.here hx rfl (1 : Int32) (hb hby at_171) (by decide) ?_
      show Steps p.tables e below (T8.setTop (mkF m 172 #[.val (.long q0), .second, .val (.long q1), .second, .val (.long q2), .second, .val (.long q3), .second, .val (.int p4), .val (.int p5), .val (.int (1 : Int32)), .val (.ref b1), .val (.ref b2), .val (.long (own_fin (own_st (0) q0))), .second, .val (.int (1 : Int32)), .val (.int (own_P p5 (1 : Int32))), .val (.long q0), .second, .val (.ref b7), .val (.long (own_fin (own_st (0) q3))), .second] [(.int (1 : Int32))])) _
      refine XS.goto X8.here hx rfl (pc0 := 172) (pc' := 176) rfl (hb hby at_172) (by decide) (by decide) ?_
      show Steps p.tables e below (T8.setTop (mkF m 176 #[.val (.long q0), .second, .val (.long q1), .second, .val (.long q2), .second, .val (.long q3), .second, .val (.int p4), .val (.int p5), .val (.int (1 : Int32)), .val (.ref b1), .val (.ref b2), .val (.long (own_fin (own_st (0) q0))), .second, .val (.int (1 : Int32)), .val (.int (own_P p5 (1 : Int32))), .val (.long q0), .second, .val (.ref b7), .val (.long (own_fin (own_st (0) q3))), .second] [(.int (1 : Int32))])) _
      refine XT.lload X8.here hx rfl (hb hby at_176) rfl ?_
      show Steps p.tables e below (T8.setTop (mkF m 178 #[.val (.long q0), .second, .val (.long q1), .second, .val (.long q2), .second, .val (.long q3), .second, .val (.int p4), .val (.int p5), .val (.int (1 : Int32)), .val (.ref b1), .val (.ref b2), .val (.long (own_fin (own_st (0) q0))), .second, .val (.int (1 : Int32)), .val (.int (own_P p5 (1 : Int32))), .val (.long q0), .second, .val (.ref b7), .val (.long (own_fin (own_st (0) q3))), .second] [(.long q0), (.int (1 : Int32))])) _
      refine XT.lload X8.here hx rfl (hb hby at_178) rfl ?_
      show Steps p.tables e below (T8.setTop (mkF m 180 #[.val (.long q0), .second, .val (.long q1), .second, .val (.long q2), .second, .val (.long q3), .second, .val (.int p4), .val (.int p5), .val (.int (1 : Int32)), .val (.ref b1), .val (.ref b2), .val (.long (own_fin (own_st (0) q0))), .second, .val (.int (1 : Int32)), .val (.int (own_P p5 (1 : Int32))), .val (.long q0), .second, .val (.ref b7), .val (.long (own_fin (own_st (0) q3))), .second] [(.long q3), (.long q0), (.int (1 : Int32))])) _
      refine XT.lcmp X8.here hx rfl (hb hby at_180) rfl ?_
      show Steps p.tables e below (T8.setTop (mkF m 181 #[.val (.long q0), .second, .val (.long q1), .second, .val (.long q2), .second, .val (.long q3), .second, .val (.int p4), .val (.int p5), .val (.int (1 : Int32)), .val (.ref b1), .val (.ref b2), .val (.long (own_fin (own_st (0) q0))), .second, .val (.int (1 : Int32)), .val (.int (own_P p5 (1 : Int32))), .val (.long q0), .second, .val (.ref b7), .val (.long (own_fin (own_st (0) q3))), .second] [(.int (XT.cmpL q0 q3)), (.int (1 : Int32))])) _
      refine XS.ifNo X8.here hx rfl (hb hby at_181) rfl (XT.ll_ne_f (own_inj1_q0 hc168_10)) ?_
      show Steps p.tables e below (T8.setTop (mkF m 184 #[.val (.long q0), .second, .val (.long q1), .second, .val (.long q2), .second, .val (.long q3), .second, .val (.int p4), .val (.int p5), .val (.int (1 : Int32)), .val (.ref b1), .val (.ref b2), .val (.long (own_fin (own_st (0) q0))), .second, .val (.int (1 : Int32)), .val (.int (own_P p5 (1 : Int32))), .val (.long q0), .second, .val (.ref b7), .val (.long (own_fin (own_st (0) q3))), .second] [(.int (1 : Int32))])) _
      refine XT.iconstV X8.here hx rfl (1 : Int32) (hb hby at_184) (by decide) ?_
      show Steps p.tables e below (T8.setTop (mkF m 185 #[.val (.long q0), .second, .val (.long q1), .second, .val (.long q2), .second, .val (.long q3), .second, .val (.int p4), .val (.int p5), .val (.int (1 : Int32)), .val (.ref b1), .val (.ref b2), .val (.long (own_fin (own_st (0) q0))), .second, .val (.int (1 : Int32)), .val (.int (own_P p5 (1 : Int32))), .val (.long q0), .second, .val (.ref b7), .val (.long (own_fin (own_st (0) q3))), .second] [(.int (1 : Int32)), (.int (1 : Int32))])) _
      refine XS.goto X8.here hx rfl (pc0 := 185) (pc' := 189) rfl (hb hby at_185) (by decide) (by decide) ?_
      show Steps p.tables e below (T8.setTop (mkF m 189 #[.val (.long q0), .second, .val (.long q1), .second, .val (.long q2), .second, .val (.long q3), .second, .val (.int p4), .val (.int p5), .val (.int (1 : Int32)), .val (.ref b1), .val (.ref b2), .val (.long (own_fin (own_st (0) q0))), .second, .val (.int (1 : Int32)), .val (.int (own_P p5 (1 : Int32))), .val (.long q0), .second, .val (.ref b7), .val (.long (own_fin (own_st (0) q3))), .second] [(.int (1 : Int32)), (.int (1 : Int32))])) _
      refine XS.icmpNo X8.here hx rfl (hb hby at_189) rfl (XT.ii_ne_f (by decide)) ?_
      show Steps p.tables e below (T8.setTop (mkF m 192 #[.val (.long q0), .second, .val (.long q1), .second, .val (.long q2), .second, .val (.long q3), .second, .val (.int p4), .val (.int p5), .val (.int (1 : Int32)), .val (.ref b1), .val (.ref b2), .val (.long (own_fin (own_st (0) q0))), .second, .val (.int (1 : Int32)), .val (.int (own_P p5 (1 : Int32))), .val (.long q0), .second, .val (.ref b7), .val (.long (own_fin (own_st (0) q3))), .second] [])) _
      refine XT.iconstV X8.here hx rfl (1 : Int32) (hb hby at_192) (by decide) ?_
      show Steps p.tables e below (T8.setTop (mkF m 193 #[.val (.long q0), .second, .val (.long q1), .second, .val (.long q2), .second, .val (.long q3), .second, .val (.int p4), .val (.int p5), .val (.int (1 : Int32)), .val (.ref b1), .val (.ref b2), .val (.long (own_fin (own_st (0) q0))), .second, .val (.int (1 : Int32)), .val (.int (own_P p5 (1 : Int32))), .val (.long q0), .second, .val (.ref b7), .val (.long (own_fin (own_st (0) q3))), .second] [(.int (1 : Int32))])) _
      refine XS.goto X8.here hx rfl (pc0 := 193) (pc' := 197) rfl (hb hby at_193) (by decide) (by decide) ?_
      show Steps p.tables e below (T8.setTop (mkF m 197 #[.val (.long q0), .second, .val (.long q1), .second, .val (.long q2), .second, .val (.long q3), .second, .val (.int p4), .val (.int p5), .val (.int (1 : Int32)), .val (.ref b1), .val (.ref b2), .val (.long (own_fin (own_st (0) q0))), .second, .val (.int (1 : Int32)), .val (.int (own_P p5 (1 : Int32))), .val (.long q0), .second, .val (.ref b7), .val (.long (own_fin (own_st (0) q3))), .second] [(.int (1 : Int32))])) _
      exact k)
    obtain ⟨fs, hr, hrun, hended, hW, hsame⟩ := X8.leave (v := some (.int (1 : Int32))) (fun h => by rw [Bd.returns] at h; cases h)
    refine ⟨_, _, pre0 _ (S11 _ ?_), hrun, hended, _, _, rfl, ?_, ⟨_, rfl⟩, hW, hsame.mono (by decide) (by decide)⟩
    · exact retN X8 hx (t := .boolean) Bd.returns (by simp) (hb hby at_197) hr
    · show Qrm0 Z q0 q1 q2 q3 p4 p5 h0 n0 _ T8.heap _
      rw [e8]
      exact ⟨rfl, N8⟩
  · have S12 : ∀ t, Steps p.tables e below (T8.setTop (mkF m 197 #[.val (.long q0), .second, .val (.long q1), .second, .val (.long q2), .second, .val (.long q3), .second, .val (.int p4), .val (.int p5), .val (.int (1 : Int32)), .val (.ref b1), .val (.ref b2), .val (.long (own_fin (own_st (0) q0))), .second, .val (.int (1 : Int32)), .val (.int (own_P p5 (1 : Int32))), .val (.long q0), .second, .val (.ref b7), .val (.long (own_fin (own_st (0) q3))), .second] [(.int (1 : Int32))])) t → Steps p.tables e below (s₁.setTop (mkF m 0 #[.val (.long q0), .second, .val (.long q1), .second, .val (.long q2), .second, .val (.long q3), .second, .val (.int p4), .val (.int p5), .unset, .unset, .unset, .unset, .unset, .unset, .unset, .unset, .unset, .unset, .unset, .unset] [])) t := fun t k => S9 t (by
      show Steps p.tables e below (T8.setTop (mkF m 168 #[.val (.long q0), .second, .val (.long q1), .second, .val (.long q2), .second, .val (.long q3), .second, .val (.int p4), .val (.int p5), .val (.int (1 : Int32)), .val (.ref b1), .val (.ref b2), .val (.long (own_fin (own_st (0) q0))), .second, .val (.int (1 : Int32)), .val (.int (own_P p5 (1 : Int32))), .val (.long q0), .second, .val (.ref b7), .val (.long (own_fin (own_st (0) q3))), .second] [(.int (XT.cmpL (own_fin (own_st (0) q0)) (own_fin (own_st (0) q3))))])) _
      refine XS.ifYes X8.here hx rfl (pc0 := 168) (pc' := 175) rfl (hb hby at_168) rfl (XT.ll_ne_t hc168_10) (by decide) (by decide) ?_
      show Steps p.tables e below (T8.setTop (mkF m 175 #[.val (.long q0), .second, .val (.long q1), .second, .val (.long q2), .second, .val (.long q3), .second, .val (.int p4), .val (.int p5), .val (.int (1 : Int32)), .val (.ref b1), .val (.ref b2), .val (.long (own_fin (own_st (0) q0))), .second, .val (.int (1 : Int32)), .val (.int (own_P p5 (1 : Int32))), .val (.long q0), .second, .val (.ref b7), .val (.long (own_fin (own_st (0) q3))), .second] [])) _
      refine XT.iconstV X8.here hx rfl (0 : Int32) (hb hby at_175) (by decide) ?_
      show Steps p.tables e below (T8.setTop (mkF m 176 #[.val (.long q0), .second, .val (.long q1), .second, .val (.long q2), .second, .val (.long q3), .second, .val (.int p4), .val (.int p5), .val (.int (1 : Int32)), .val (.ref b1), .val (.ref b2), .val (.long (own_fin (own_st (0) q0))), .second, .val (.int (1 : Int32)), .val (.int (own_P p5 (1 : Int32))), .val (.long q0), .second, .val (.ref b7), .val (.long (own_fin (own_st (0) q3))), .second] [(.int (0 : Int32))])) _
      refine XT.lload X8.here hx rfl (hb hby at_176) rfl ?_
      show Steps p.tables e below (T8.setTop (mkF m 178 #[.val (.long q0), .second, .val (.long q1), .second, .val (.long q2), .second, .val (.long q3), .second, .val (.int p4), .val (.int p5), .val (.int (1 : Int32)), .val (.ref b1), .val (.ref b2), .val (.long (own_fin (own_st (0) q0))), .second, .val (.int (1 : Int32)), .val (.int (own_P p5 (1 : Int32))), .val (.long q0), .second, .val (.ref b7), .val (.long (own_fin (own_st (0) q3))), .second] [(.long q0), (.int (0 : Int32))])) _
      refine XT.lload X8.here hx rfl (hb hby at_178) rfl ?_
      show Steps p.tables e below (T8.setTop (mkF m 180 #[.val (.long q0), .second, .val (.long q1), .second, .val (.long q2), .second, .val (.long q3), .second, .val (.int p4), .val (.int p5), .val (.int (1 : Int32)), .val (.ref b1), .val (.ref b2), .val (.long (own_fin (own_st (0) q0))), .second, .val (.int (1 : Int32)), .val (.int (own_P p5 (1 : Int32))), .val (.long q0), .second, .val (.ref b7), .val (.long (own_fin (own_st (0) q3))), .second] [(.long q3), (.long q0), (.int (0 : Int32))])) _
      refine XT.lcmp X8.here hx rfl (hb hby at_180) rfl ?_
      show Steps p.tables e below (T8.setTop (mkF m 181 #[.val (.long q0), .second, .val (.long q1), .second, .val (.long q2), .second, .val (.long q3), .second, .val (.int p4), .val (.int p5), .val (.int (1 : Int32)), .val (.ref b1), .val (.ref b2), .val (.long (own_fin (own_st (0) q0))), .second, .val (.int (1 : Int32)), .val (.int (own_P p5 (1 : Int32))), .val (.long q0), .second, .val (.ref b7), .val (.long (own_fin (own_st (0) q3))), .second] [(.int (XT.cmpL q0 q3)), (.int (0 : Int32))])) _
      refine XS.ifYes X8.here hx rfl (pc0 := 181) (pc' := 188) rfl (hb hby at_181) rfl (XT.ll_ne_t (fun q => hc168_10 (by rw [q]))) (by decide) (by decide) ?_
      show Steps p.tables e below (T8.setTop (mkF m 188 #[.val (.long q0), .second, .val (.long q1), .second, .val (.long q2), .second, .val (.long q3), .second, .val (.int p4), .val (.int p5), .val (.int (1 : Int32)), .val (.ref b1), .val (.ref b2), .val (.long (own_fin (own_st (0) q0))), .second, .val (.int (1 : Int32)), .val (.int (own_P p5 (1 : Int32))), .val (.long q0), .second, .val (.ref b7), .val (.long (own_fin (own_st (0) q3))), .second] [(.int (0 : Int32))])) _
      refine XT.iconstV X8.here hx rfl (0 : Int32) (hb hby at_188) (by decide) ?_
      show Steps p.tables e below (T8.setTop (mkF m 189 #[.val (.long q0), .second, .val (.long q1), .second, .val (.long q2), .second, .val (.long q3), .second, .val (.int p4), .val (.int p5), .val (.int (1 : Int32)), .val (.ref b1), .val (.ref b2), .val (.long (own_fin (own_st (0) q0))), .second, .val (.int (1 : Int32)), .val (.int (own_P p5 (1 : Int32))), .val (.long q0), .second, .val (.ref b7), .val (.long (own_fin (own_st (0) q3))), .second] [(.int (0 : Int32)), (.int (0 : Int32))])) _
      refine XS.icmpNo X8.here hx rfl (hb hby at_189) rfl (XT.ii_ne_f (by decide)) ?_
      show Steps p.tables e below (T8.setTop (mkF m 192 #[.val (.long q0), .second, .val (.long q1), .second, .val (.long q2), .second, .val (.long q3), .second, .val (.int p4), .val (.int p5), .val (.int (1 : Int32)), .val (.ref b1), .val (.ref b2), .val (.long (own_fin (own_st (0) q0))), .second, .val (.int (1 : Int32)), .val (.int (own_P p5 (1 : Int32))), .val (.long q0), .second, .val (.ref b7), .val (.long (own_fin (own_st (0) q3))), .second] [])) _
      refine XT.iconstV X8.here hx rfl (1 : Int32) (hb hby at_192) (by decide) ?_
      show Steps p.tables e below (T8.setTop (mkF m 193 #[.val (.long q0), .second, .val (.long q1), .second, .val (.long q2), .second, .val (.long q3), .second, .val (.int p4), .val (.int p5), .val (.int (1 : Int32)), .val (.ref b1), .val (.ref b2), .val (.long (own_fin (own_st (0) q0))), .second, .val (.int (1 : Int32)), .val (.int (own_P p5 (1 : Int32))), .val (.long q0), .second, .val (.ref b7), .val (.long (own_fin (own_st (0) q3))), .second] [(.int (1 : Int32))])) _
      refine XS.goto X8.here hx rfl (pc0 := 193) (pc' := 197) rfl (hb hby at_193) (by decide) (by decide) ?_
      show Steps p.tables e below (T8.setTop (mkF m 197 #[.val (.long q0), .second, .val (.long q1), .second, .val (.long q2), .second, .val (.long q3), .second, .val (.int p4), .val (.int p5), .val (.int (1 : Int32)), .val (.ref b1), .val (.ref b2), .val (.long (own_fin (own_st (0) q0))), .second, .val (.int (1 : Int32)), .val (.int (own_P p5 (1 : Int32))), .val (.long q0), .second, .val (.ref b7), .val (.long (own_fin (own_st (0) q3))), .second] [(.int (1 : Int32))])) _
      exact k)
    obtain ⟨fs, hr, hrun, hended, hW, hsame⟩ := X8.leave (v := some (.int (1 : Int32))) (fun h => by rw [Bd.returns] at h; cases h)
    refine ⟨_, _, pre0 _ (S12 _ ?_), hrun, hended, _, _, rfl, ?_, ⟨_, rfl⟩, hW, hsame.mono (by decide) (by decide)⟩
    · exact retN X8 hx (t := .boolean) Bd.returns (by simp) (hb hby at_197) hr
    · show Qrm0 Z q0 q1 q2 q3 p4 p5 h0 n0 _ T8.heap _
      rw [e8]
      exact ⟨rfl, N8⟩
set_option maxRecDepth 65536 in
set_option maxHeartbeats 40000000 in
theorem rm0_2 (l : Launch) (Z : State) (av0 : Array Value) (hw : ∀ d ∈ tables_1, d.before av0 Z = true) (ws : List Jvm.Cond) (q0 : Int64) (q1 : Int64) (q2 : Int64) (q3 : Int64) (p4 : Int32) (p5 : Int32) (h0 : Heap) (n0 : Nat) (Z0 : n0 ≤ h0.size) (hn : p4 &&& (3 : Int32) = (2 : Int32)) :
    MetFree l x (head1 (Jvm.Cond.code x code maxLocals ret :: ws) room_1) (fun aU U => aU = #[(.long q0), (.long q1), (.long q2), (.long q3), (.int p4), (.int p5)] ∧ Z.Warmed39 U.vm ∧ U.heap = h0) (fun _ _ _ _ _ => True) (fun _ U oU U' => ∃ vU LU, oU = .returned vU ∧ Qrm0 Z q0 q1 q2 q3 p4 p5 h0 n0 vU U'.heap LU ∧ FrameEnd U oU U' LU room_1.cells room_1.slots) := by
  refine MetFree.of_bodySF (plainFor_of_name pn_StateSpaceHashPinLaw) hisR ?_
  intro p e s m args below meth c s₁ Bd hml0 hP hK
  obtain ⟨rfl, hZ, hh⟩ := hP
  have hx := Bd.exec
  have hby := Bd.bytes
  have hml : c.maxLocals = 22 := hml0
  have hown : s.vm.findClass "com/example/bare_refinement/barerefinement/exploration/StateSpaceHashPinLaw" = some m.cls := findClass_of_methodNamed Bd.named
  have hnm := (name_of_methodNamed Bd.named Bd.method).1
  have X0 : Stand p l e room_1 s m #[(.long q0), (.long q1), (.long q2), (.long q3), (.int p4), (.int p5)] below meth c s₁ [] 0 0 := Stand.of_body Bd
  have e0 : s₁.heap = h0 := by rw [← hh, Bd.state]; rfl
  have N0 := Fr.nil n0
  have pre0 : ∀ t, Steps p.tables e below (s₁.setTop (mkF m 0 #[.val (.long q0), .second, .val (.long q1), .second, .val (.long q2), .second, .val (.long q3), .second, .val (.int p4), .val (.int p5), .unset, .unset, .unset, .unset, .unset, .unset, .unset, .unset, .unset, .unset, .unset, .unset] [])) t → Steps p.tables e below (s₁.setTop (entryFrame m #[(.long q0), (.long q1), (.long q2), (.long q3), (.int p4), (.int p5)] maxLocals)) t := fun t k => castTop (by first | (simp [entryFrame, mkF, argsToLocals, Value.category, maxLocals]; done) | rfl) k
  obtain ⟨_, _, ⟨T1, L1, k1, n1⟩, -, X1, ⟨Lc1, hQ1, l1, y1, z1⟩, st1⟩ := Jvm.LawKit.callS X0 hx (y := (⟨"com/example/bare_refinement/barerefinement/exploration/StateSpaceHashPinLaw", "make", "(IJJJ)[J"⟩ : MethodName)) hown (mvT hZ (hw _ (List.mem_of_getElem? (i := 0) rfl))) (mvT hZ (hw _ (List.mem_of_getElem? (i := 1) rfl))) (mvT hZ (hw _ (List.mem_of_getElem? (i := 2) rfl))) (mvT hZ (hw _ (List.mem_of_getElem? (i := 3) rfl))) (by decide) (backOf (W := 0) (rmMake2 l Z av0 hw [] q0 q1 q2 h0 n0 Z0) hZ (hw _ (List.mem_of_getElem? (i := 3) rfl)) (hw _ (List.mem_of_getElem? (i := 2) rfl)) (by decide) (by decide)) (g := (mkF m 12 #[.val (.long q0), .second, .val (.long q1), .second, .val (.long q2), .second, .val (.long q3), .second, .val (.int p4), .val (.int p5), .val (.int (2 : Int32)), .unset, .unset, .unset, .unset, .unset, .unset, .unset, .unset, .unset, .unset, .unset] [(.long q2), (.long q1), (.long q0), (.int (2 : Int32))])) rfl (by rw [hml]; rfl) (argsL := [(.int (2 : Int32)), (.long q0), (.long q1), (.long q2)]) (rest := []) (lenOf pd__IJJJ_J rfl) rfl (by show 2 * 0 + _ ≤ _; exact Nat.le_of_eq rfl) (hb hby at_12) (fun _ _ => ⟨rfl, e0, (by decide : 0 + 1 ≤ _), (by decide : 0 + 2 ≤ _)⟩)
  dsimp only [Pt.U, Pt.locs, Pt.cells, Pt.slots] at X1 l1 y1 z1 st1 hQ1
  subst l1 y1 z1
  obtain ⟨b1, k1', rfl, N1q, ge1, K1, V1⟩ := hQ1
  have N1 := Fr.app N0 N1q
  have e1 : T1.heap = T1.heap := rfl
  have Z1 : n0 ≤ T1.heap.size := Nat.le_trans Z0 K1.1
  obtain ⟨_, _, ⟨T2, L2, k2, n2⟩, -, X2, ⟨Lc2, hQ2, l2, y2, z2⟩, st2⟩ := Jvm.LawKit.callS X1 hx (y := (⟨"com/example/bare_refinement/barerefinement/exploration/StateSpaceHashPinLaw", "make", "(IJJJ)[J"⟩ : MethodName)) hown (mvT hZ (hw _ (List.mem_of_getElem? (i := 0) rfl))) (mvT hZ (hw _ (List.mem_of_getElem? (i := 1) rfl))) (mvT hZ (hw _ (List.mem_of_getElem? (i := 2) rfl))) (mvT hZ (hw _ (List.mem_of_getElem? (i := 3) rfl))) (by decide) (backOf (W := 0) (rmMake2 l Z av0 hw [] q0 q1 q2 T1.heap n0 Z1) hZ (hw _ (List.mem_of_getElem? (i := 3) rfl)) (hw _ (List.mem_of_getElem? (i := 2) rfl)) (by decide) (by decide)) (g := (mkF m 23 #[.val (.long q0), .second, .val (.long q1), .second, .val (.long q2), .second, .val (.long q3), .second, .val (.int p4), .val (.int p5), .val (.int (2 : Int32)), .val (.ref b1), .unset, .unset, .unset, .unset, .unset, .unset, .unset, .unset, .unset, .unset] [(.long q2), (.long q1), (.long q0), (.int (2 : Int32))])) rfl (by rw [hml]; rfl) (argsL := [(.int (2 : Int32)), (.long q0), (.long q1), (.long q2)]) (rest := []) (lenOf pd__IJJJ_J rfl) rfl (by show 2 * 0 + _ ≤ _; exact Nat.le_of_eq rfl) (hb hby at_23) (fun _ _ => ⟨rfl, e1, (by decide : 1 + 1 ≤ _), (by decide : 2 + 2 ≤ _)⟩)
  dsimp only [Pt.U, Pt.locs, Pt.cells, Pt.slots] at X2 l2 y2 z2 st2 hQ2
  subst l2 y2 z2
  obtain ⟨b2, k2', rfl, N2q, ge2, K2, V2⟩ := hQ2
  have N2 := Fr.app N1 N2q
  have e2 : T2.heap = T2.heap := rfl
  have ne_b1_b2 : b1 ≠ b2 := Nat.ne_of_lt (Nat.lt_of_lt_of_le V1.lt ge2)
  have Z2 : n0 ≤ T2.heap.size := Nat.le_trans Z1 K2.1
  have f3 := (V1.keep K2 nin0)
  obtain ⟨_, _, ⟨T4, L4, k4, n4⟩, -, X4, ⟨Lc4, hQ4, l4, y4, z4⟩, st4⟩ := Jvm.LawKit.callS X2 hx (y := (⟨"com/example/bare_refinement/barerefinement/exploration/StateSpace", "hash", "([J)J"⟩ : MethodName)) hown (mvT hZ (hw _ (List.mem_of_getElem? (i := 5) rfl))) (mvT hZ (hw _ (List.mem_of_getElem? (i := 6) rfl))) (mvT hZ (hw _ (List.mem_of_getElem? (i := 7) rfl))) (mvT hZ (hw _ (List.mem_of_getElem? (i := 8) rfl))) (by decide) (backOf (W := 0) (rmHash2 l Z av0 hw [] b1 k1' q0 q1 T2.heap n0 Z2 f3) hZ (hw _ (List.mem_of_getElem? (i := 8) rfl)) (hw _ (List.mem_of_getElem? (i := 7) rfl)) (by decide) (by decide)) (g := (mkF m 30 #[.val (.long q0), .second, .val (.long q1), .second, .val (.long q2), .second, .val (.long q3), .second, .val (.int p4), .val (.int p5), .val (.int (2 : Int32)), .val (.ref b1), .val (.ref b2), .unset, .unset, .unset, .unset, .unset, .unset, .unset, .unset, .unset] [(.ref b1)])) rfl (by rw [hml]; rfl) (argsL := [(.ref b1)]) (rest := []) (lenOf pd__J_J rfl) rfl (by show 2 * 0 + _ ≤ _; exact Nat.le_of_eq rfl) (hb hby at_30) (fun _ _ => ⟨rfl, e2, (by decide : 2 + 0 ≤ _), (by decide : 4 + 0 ≤ _)⟩)
  dsimp only [Pt.U, Pt.locs, Pt.cells, Pt.slots] at X4 l4 y4 z4 st4 hQ4
  subst l4 y4 z4
  obtain ⟨rfl, N4q, hh4⟩ := hQ4
  have N4 := Fr.app N2 N4q
  have e4 : T4.heap = T2.heap := hh4
  obtain ⟨_, _, ⟨T5, L5, k5, n5⟩, -, X5, ⟨Lc5, hQ5, l5, y5, z5⟩, st5⟩ := Jvm.LawKit.callS X4 hx (y := (⟨"com/example/bare_refinement/barerefinement/exploration/StateSpace", "hash", "([J)J"⟩ : MethodName)) hown (mvT hZ (hw _ (List.mem_of_getElem? (i := 5) rfl))) (mvT hZ (hw _ (List.mem_of_getElem? (i := 6) rfl))) (mvT hZ (hw _ (List.mem_of_getElem? (i := 7) rfl))) (mvT hZ (hw _ (List.mem_of_getElem? (i := 8) rfl))) (by decide) (backOf (W := 2) (rmHash2 l Z av0 hw [] b2 k2' q0 q1 T2.heap n0 Z2 V2) hZ (hw _ (List.mem_of_getElem? (i := 8) rfl)) (hw _ (List.mem_of_getElem? (i := 7) rfl)) (by decide) (by decide)) (g := (mkF m 39 #[.val (.long q0), .second, .val (.long q1), .second, .val (.long q2), .second, .val (.long q3), .second, .val (.int p4), .val (.int p5), .val (.int (2 : Int32)), .val (.ref b1), .val (.ref b2), .val (.long (own_fin (own_st (own_st (0) q0) q1))), .second, .unset, .unset, .unset, .unset, .unset, .unset, .unset] [(.ref b2), (.long (own_fin (own_st (own_st (0) q0) q1)))])) rfl (by rw [hml]; rfl) (argsL := [(.ref b2)]) (rest := [(.long (own_fin (own_st (own_st (0) q0) q1)))]) (lenOf pd__J_J rfl) rfl (by show 2 * 0 + _ ≤ _; exact Nat.le_of_eq rfl) (hb hby at_39) (fun _ _ => ⟨rfl, e4, (by decide : 2 + 0 ≤ _), (by decide : 4 + 0 ≤ _)⟩)
  dsimp only [Pt.U, Pt.locs, Pt.cells, Pt.slots] at X5 l5 y5 z5 st5 hQ5
  subst l5 y5 z5
  obtain ⟨rfl, N5q, hh5⟩ := hQ5
  have N5 := Fr.app N4 N5q
  have e5 : T5.heap = T2.heap := hh5
  obtain ⟨_, _, ⟨T6, L6, k6, n6⟩, -, X6, ⟨Lc6, hQ6, l6, y6, z6⟩, st6⟩ := Jvm.LawKit.callS X5 hx (y := (⟨"com/example/bare_refinement/barerefinement/exploration/StateSpaceHashPinLaw", "unchanged", "([JIJJJ)Z"⟩ : MethodName)) hown (mvT hZ (hw _ (List.mem_of_getElem? (i := 11) rfl))) (mvT hZ (hw _ (List.mem_of_getElem? (i := 12) rfl))) (mvT hZ (hw _ (List.mem_of_getElem? (i := 2) rfl))) (mvT hZ (hw _ (List.mem_of_getElem? (i := 13) rfl))) (by decide) (backOf (W := 0) (rmUn2 l Z av0 hw [] b1 k1' q0 q1 q2 T2.heap n0 Z2 f3) hZ (hw _ (List.mem_of_getElem? (i := 13) rfl)) (hw _ (List.mem_of_getElem? (i := 2) rfl)) (by decide) (by decide)) (g := (mkF m 54 #[.val (.long q0), .second, .val (.long q1), .second, .val (.long q2), .second, .val (.long q3), .second, .val (.int p4), .val (.int p5), .val (.int (2 : Int32)), .val (.ref b1), .val (.ref b2), .val (.long (own_fin (own_st (own_st (0) q0) q1))), .second, .unset, .unset, .unset, .unset, .unset, .unset, .unset] [(.long q2), (.long q1), (.long q0), (.int (2 : Int32)), (.ref b1)])) rfl (by rw [hml]; rfl) (argsL := [(.ref b1), (.int (2 : Int32)), (.long q0), (.long q1), (.long q2)]) (rest := []) (lenOf pd__JIJJJ_Z rfl) rfl (by show 2 * 0 + _ ≤ _; exact Nat.le_of_eq rfl) (hb hby at_54) (fun _ _ => ⟨rfl, e5, (by decide : 2 + 0 ≤ _), (by decide : 4 + 0 ≤ _)⟩)
  dsimp only [Pt.U, Pt.locs, Pt.cells, Pt.slots] at X6 l6 y6 z6 st6 hQ6
  subst l6 y6 z6
  obtain ⟨rfl, N6q, hh6⟩ := hQ6
  have N6 := Fr.app N5 N6q
  have e6 : T6.heap = T2.heap := hh6
  have S7 : ∀ t, Steps p.tables e below (T6.setTop (mkF m 87 #[.val (.long q0), .second, .val (.long q1), .second, .val (.long q2), .second, .val (.long q3), .second, .val (.int p4), .val (.int p5), .val (.int (2 : Int32)), .val (.ref b1), .val (.ref b2), .val (.long (own_fin (own_st (own_st (0) q0) q1))), .second, .val (.int (1 : Int32)), .val (.int (own_P p5 (2 : Int32))), .unset, .unset, .unset, .unset, .unset] [(.int (own_P p5 (2 : Int32)))])) t → Steps p.tables e below (s₁.setTop (mkF m 0 #[.val (.long q0), .second, .val (.long q1), .second, .val (.long q2), .second, .val (.long q3), .second, .val (.int p4), .val (.int p5), .unset, .unset, .unset, .unset, .unset, .unset, .unset, .unset, .unset, .unset, .unset, .unset] [])) t := fun t k => id (by
    show Steps p.tables e below (s₁.setTop (mkF m 0 #[.val (.long q0), .second, .val (.long q1), .second, .val (.long q2), .second, .val (.long q3), .second, .val (.int p4), .val (.int p5), .unset, .unset, .unset, .unset, .unset, .unset, .unset, .unset, .unset, .unset, .unset, .unset] [])) _
    refine XS.iload X0.here hx rfl (hb hby at_0) rfl ?_
    show Steps p.tables e below (s₁.setTop (mkF m 2 #[.val (.long q0), .second, .val (.long q1), .second, .val (.long q2), .second, .val (.long q3), .second, .val (.int p4), .val (.int p5), .unset, .unset, .unset, .unset, .unset, .unset, .unset, .unset, .unset, .unset, .unset, .unset] [(.int p4)])) _
    refine XT.iconstV X0.here hx rfl (3 : Int32) (hb hby at_2) (by decide) ?_
    show Steps p.tables e below (s₁.setTop (mkF m 3 #[.val (.long q0), .second, .val (.long q1), .second, .val (.long q2), .second, .val (.long q3), .second, .val (.int p4), .val (.int p5), .unset, .unset, .unset, .unset, .unset, .unset, .unset, .unset, .unset, .unset, .unset, .unset] [(.int (3 : Int32)), (.int p4)])) _
    refine XS.iand X0.here hx rfl (hb hby at_3) rfl ?_
    show Steps p.tables e below (s₁.setTop (mkF m 4 #[.val (.long q0), .second, .val (.long q1), .second, .val (.long q2), .second, .val (.long q3), .second, .val (.int p4), .val (.int p5), .unset, .unset, .unset, .unset, .unset, .unset, .unset, .unset, .unset, .unset, .unset, .unset] [(.int (p4 &&& (3 : Int32)))])) _
    rw [hn]
    show Steps p.tables e below (s₁.setTop (mkF m 4 #[.val (.long q0), .second, .val (.long q1), .second, .val (.long q2), .second, .val (.long q3), .second, .val (.int p4), .val (.int p5), .unset, .unset, .unset, .unset, .unset, .unset, .unset, .unset, .unset, .unset, .unset, .unset] [(.int (2 : Int32))])) _
    refine XS.istore X0.here hx rfl (hb hby at_4) rfl (l' := #[.val (.long q0), .second, .val (.long q1), .second, .val (.long q2), .second, .val (.long q3), .second, .val (.int p4), .val (.int p5), .val (.int (2 : Int32)), .unset, .unset, .unset, .unset, .unset, .unset, .unset, .unset, .unset, .unset, .unset]) rfl ?_
    show Steps p.tables e below (s₁.setTop (mkF m 6 #[.val (.long q0), .second, .val (.long q1), .second, .val (.long q2), .second, .val (.long q3), .second, .val (.int p4), .val (.int p5), .val (.int (2 : Int32)), .unset, .unset, .unset, .unset, .unset, .unset, .unset, .unset, .unset, .unset, .unset] [])) _
    refine XS.iload X0.here hx rfl (hb hby at_6) rfl ?_
    show Steps p.tables e below (s₁.setTop (mkF m 8 #[.val (.long q0), .second, .val (.long q1), .second, .val (.long q2), .second, .val (.long q3), .second, .val (.int p4), .val (.int p5), .val (.int (2 : Int32)), .unset, .unset, .unset, .unset, .unset, .unset, .unset, .unset, .unset, .unset, .unset] [(.int (2 : Int32))])) _
    refine XT.lloadN X0.here hx rfl (hb hby at_8) rfl ?_
    show Steps p.tables e below (s₁.setTop (mkF m 9 #[.val (.long q0), .second, .val (.long q1), .second, .val (.long q2), .second, .val (.long q3), .second, .val (.int p4), .val (.int p5), .val (.int (2 : Int32)), .unset, .unset, .unset, .unset, .unset, .unset, .unset, .unset, .unset, .unset, .unset] [(.long q0), (.int (2 : Int32))])) _
    refine XT.lloadN X0.here hx rfl (hb hby at_9) rfl ?_
    show Steps p.tables e below (s₁.setTop (mkF m 10 #[.val (.long q0), .second, .val (.long q1), .second, .val (.long q2), .second, .val (.long q3), .second, .val (.int p4), .val (.int p5), .val (.int (2 : Int32)), .unset, .unset, .unset, .unset, .unset, .unset, .unset, .unset, .unset, .unset, .unset] [(.long q1), (.long q0), (.int (2 : Int32))])) _
    refine XT.lload X0.here hx rfl (hb hby at_10) rfl ?_
    show Steps p.tables e below (s₁.setTop (mkF m 12 #[.val (.long q0), .second, .val (.long q1), .second, .val (.long q2), .second, .val (.long q3), .second, .val (.int p4), .val (.int p5), .val (.int (2 : Int32)), .unset, .unset, .unset, .unset, .unset, .unset, .unset, .unset, .unset, .unset, .unset] [(.long q2), (.long q1), (.long q0), (.int (2 : Int32))])) _
    refine st1 _ ?_
    show Steps p.tables e below (T1.setTop (mkF m 15 #[.val (.long q0), .second, .val (.long q1), .second, .val (.long q2), .second, .val (.long q3), .second, .val (.int p4), .val (.int p5), .val (.int (2 : Int32)), .unset, .unset, .unset, .unset, .unset, .unset, .unset, .unset, .unset, .unset, .unset] [(.ref b1)])) _
    refine XS.astore X1.here hx rfl (hb hby at_15) rfl rfl (l' := #[.val (.long q0), .second, .val (.long q1), .second, .val (.long q2), .second, .val (.long q3), .second, .val (.int p4), .val (.int p5), .val (.int (2 : Int32)), .val (.ref b1), .unset, .unset, .unset, .unset, .unset, .unset, .unset, .unset, .unset, .unset]) rfl ?_
    show Steps p.tables e below (T1.setTop (mkF m 17 #[.val (.long q0), .second, .val (.long q1), .second, .val (.long q2), .second, .val (.long q3), .second, .val (.int p4), .val (.int p5), .val (.int (2 : Int32)), .val (.ref b1), .unset, .unset, .unset, .unset, .unset, .unset, .unset, .unset, .unset, .unset] [])) _
    refine XS.iload X1.here hx rfl (hb hby at_17) rfl ?_
    show Steps p.tables e below (T1.setTop (mkF m 19 #[.val (.long q0), .second, .val (.long q1), .second, .val (.long q2), .second, .val (.long q3), .second, .val (.int p4), .val (.int p5), .val (.int (2 : Int32)), .val (.ref b1), .unset, .unset, .unset, .unset, .unset, .unset, .unset, .unset, .unset, .unset] [(.int (2 : Int32))])) _
    refine XT.lloadN X1.here hx rfl (hb hby at_19) rfl ?_
    show Steps p.tables e below (T1.setTop (mkF m 20 #[.val (.long q0), .second, .val (.long q1), .second, .val (.long q2), .second, .val (.long q3), .second, .val (.int p4), .val (.int p5), .val (.int (2 : Int32)), .val (.ref b1), .unset, .unset, .unset, .unset, .unset, .unset, .unset, .unset, .unset, .unset] [(.long q0), (.int (2 : Int32))])) _
    refine XT.lloadN X1.here hx rfl (hb hby at_20) rfl ?_
    show Steps p.tables e below (T1.setTop (mkF m 21 #[.val (.long q0), .second, .val (.long q1), .second, .val (.long q2), .second, .val (.long q3), .second, .val (.int p4), .val (.int p5), .val (.int (2 : Int32)), .val (.ref b1), .unset, .unset, .unset, .unset, .unset, .unset, .unset, .unset, .unset, .unset] [(.long q1), (.long q0), (.int (2 : Int32))])) _
    refine XT.lload X1.here hx rfl (hb hby at_21) rfl ?_
    show Steps p.tables e below (T1.setTop (mkF m 23 #[.val (.long q0), .second, .val (.long q1), .second, .val (.long q2), .second, .val (.long q3), .second, .val (.int p4), .val (.int p5), .val (.int (2 : Int32)), .val (.ref b1), .unset, .unset, .unset, .unset, .unset, .unset, .unset, .unset, .unset, .unset] [(.long q2), (.long q1), (.long q0), (.int (2 : Int32))])) _
    refine st2 _ ?_
    show Steps p.tables e below (T2.setTop (mkF m 26 #[.val (.long q0), .second, .val (.long q1), .second, .val (.long q2), .second, .val (.long q3), .second, .val (.int p4), .val (.int p5), .val (.int (2 : Int32)), .val (.ref b1), .unset, .unset, .unset, .unset, .unset, .unset, .unset, .unset, .unset, .unset] [(.ref b2)])) _
    refine XS.astore X2.here hx rfl (hb hby at_26) rfl rfl (l' := #[.val (.long q0), .second, .val (.long q1), .second, .val (.long q2), .second, .val (.long q3), .second, .val (.int p4), .val (.int p5), .val (.int (2 : Int32)), .val (.ref b1), .val (.ref b2), .unset, .unset, .unset, .unset, .unset, .unset, .unset, .unset, .unset]) rfl ?_
    show Steps p.tables e below (T2.setTop (mkF m 28 #[.val (.long q0), .second, .val (.long q1), .second, .val (.long q2), .second, .val (.long q3), .second, .val (.int p4), .val (.int p5), .val (.int (2 : Int32)), .val (.ref b1), .val (.ref b2), .unset, .unset, .unset, .unset, .unset, .unset, .unset, .unset, .unset] [])) _
    refine XS.aload X2.here hx rfl (hb hby at_28) rfl rfl ?_
    show Steps p.tables e below (T2.setTop (mkF m 30 #[.val (.long q0), .second, .val (.long q1), .second, .val (.long q2), .second, .val (.long q3), .second, .val (.int p4), .val (.int p5), .val (.int (2 : Int32)), .val (.ref b1), .val (.ref b2), .unset, .unset, .unset, .unset, .unset, .unset, .unset, .unset, .unset] [(.ref b1)])) _
    refine st4 _ ?_
    show Steps p.tables e below (T4.setTop (mkF m 33 #[.val (.long q0), .second, .val (.long q1), .second, .val (.long q2), .second, .val (.long q3), .second, .val (.int p4), .val (.int p5), .val (.int (2 : Int32)), .val (.ref b1), .val (.ref b2), .unset, .unset, .unset, .unset, .unset, .unset, .unset, .unset, .unset] [(.long (own_fin (own_st (own_st (0) q0) q1)))])) _
    refine XT.lstore X4.here hx rfl (hb hby at_33) rfl (l' := #[.val (.long q0), .second, .val (.long q1), .second, .val (.long q2), .second, .val (.long q3), .second, .val (.int p4), .val (.int p5), .val (.int (2 : Int32)), .val (.ref b1), .val (.ref b2), .val (.long (own_fin (own_st (own_st (0) q0) q1))), .second, .unset, .unset, .unset, .unset, .unset, .unset, .unset]) rfl ?_
    show Steps p.tables e below (T4.setTop (mkF m 35 #[.val (.long q0), .second, .val (.long q1), .second, .val (.long q2), .second, .val (.long q3), .second, .val (.int p4), .val (.int p5), .val (.int (2 : Int32)), .val (.ref b1), .val (.ref b2), .val (.long (own_fin (own_st (own_st (0) q0) q1))), .second, .unset, .unset, .unset, .unset, .unset, .unset, .unset] [])) _
    refine XT.lload X4.here hx rfl (hb hby at_35) rfl ?_
    show Steps p.tables e below (T4.setTop (mkF m 37 #[.val (.long q0), .second, .val (.long q1), .second, .val (.long q2), .second, .val (.long q3), .second, .val (.int p4), .val (.int p5), .val (.int (2 : Int32)), .val (.ref b1), .val (.ref b2), .val (.long (own_fin (own_st (own_st (0) q0) q1))), .second, .unset, .unset, .unset, .unset, .unset, .unset, .unset] [(.long (own_fin (own_st (own_st (0) q0) q1)))])) _
    refine XS.aload X4.here hx rfl (hb hby at_37) rfl rfl ?_
    show Steps p.tables e below (T4.setTop (mkF m 39 #[.val (.long q0), .second, .val (.long q1), .second, .val (.long q2), .second, .val (.long q3), .second, .val (.int p4), .val (.int p5), .val (.int (2 : Int32)), .val (.ref b1), .val (.ref b2), .val (.long (own_fin (own_st (own_st (0) q0) q1))), .second, .unset, .unset, .unset, .unset, .unset, .unset, .unset] [(.ref b2), (.long (own_fin (own_st (own_st (0) q0) q1)))])) _
    refine st5 _ ?_
    show Steps p.tables e below (T5.setTop (mkF m 42 #[.val (.long q0), .second, .val (.long q1), .second, .val (.long q2), .second, .val (.long q3), .second, .val (.int p4), .val (.int p5), .val (.int (2 : Int32)), .val (.ref b1), .val (.ref b2), .val (.long (own_fin (own_st (own_st (0) q0) q1))), .second, .unset, .unset, .unset, .unset, .unset, .unset, .unset] [(.long (own_fin (own_st (own_st (0) q0) q1))), (.long (own_fin (own_st (own_st (0) q0) q1)))])) _
    refine XT.lcmp X5.here hx rfl (hb hby at_42) rfl ?_
    show Steps p.tables e below (T5.setTop (mkF m 43 #[.val (.long q0), .second, .val (.long q1), .second, .val (.long q2), .second, .val (.long q3), .second, .val (.int p4), .val (.int p5), .val (.int (2 : Int32)), .val (.ref b1), .val (.ref b2), .val (.long (own_fin (own_st (own_st (0) q0) q1))), .second, .unset, .unset, .unset, .unset, .unset, .unset, .unset] [(.int (XT.cmpL (own_fin (own_st (own_st (0) q0) q1)) (own_fin (own_st (own_st (0) q0) q1))))])) _
    refine XS.ifNo X5.here hx rfl (hb hby at_43) rfl (XT.ll_ne_f rfl) ?_
    show Steps p.tables e below (T5.setTop (mkF m 46 #[.val (.long q0), .second, .val (.long q1), .second, .val (.long q2), .second, .val (.long q3), .second, .val (.int p4), .val (.int p5), .val (.int (2 : Int32)), .val (.ref b1), .val (.ref b2), .val (.long (own_fin (own_st (own_st (0) q0) q1))), .second, .unset, .unset, .unset, .unset, .unset, .unset, .unset] [])) _
    refine XS.aload X5.here hx rfl (hb hby at_46) rfl rfl ?_
    show Steps p.tables e below (T5.setTop (mkF m 48 #[.val (.long q0), .second, .val (.long q1), .second, .val (.long q2), .second, .val (.long q3), .second, .val (.int p4), .val (.int p5), .val (.int (2 : Int32)), .val (.ref b1), .val (.ref b2), .val (.long (own_fin (own_st (own_st (0) q0) q1))), .second, .unset, .unset, .unset, .unset, .unset, .unset, .unset] [(.ref b1)])) _
    refine XS.iload X5.here hx rfl (hb hby at_48) rfl ?_
    show Steps p.tables e below (T5.setTop (mkF m 50 #[.val (.long q0), .second, .val (.long q1), .second, .val (.long q2), .second, .val (.long q3), .second, .val (.int p4), .val (.int p5), .val (.int (2 : Int32)), .val (.ref b1), .val (.ref b2), .val (.long (own_fin (own_st (own_st (0) q0) q1))), .second, .unset, .unset, .unset, .unset, .unset, .unset, .unset] [(.int (2 : Int32)), (.ref b1)])) _
    refine XT.lloadN X5.here hx rfl (hb hby at_50) rfl ?_
    show Steps p.tables e below (T5.setTop (mkF m 51 #[.val (.long q0), .second, .val (.long q1), .second, .val (.long q2), .second, .val (.long q3), .second, .val (.int p4), .val (.int p5), .val (.int (2 : Int32)), .val (.ref b1), .val (.ref b2), .val (.long (own_fin (own_st (own_st (0) q0) q1))), .second, .unset, .unset, .unset, .unset, .unset, .unset, .unset] [(.long q0), (.int (2 : Int32)), (.ref b1)])) _
    refine XT.lloadN X5.here hx rfl (hb hby at_51) rfl ?_
    show Steps p.tables e below (T5.setTop (mkF m 52 #[.val (.long q0), .second, .val (.long q1), .second, .val (.long q2), .second, .val (.long q3), .second, .val (.int p4), .val (.int p5), .val (.int (2 : Int32)), .val (.ref b1), .val (.ref b2), .val (.long (own_fin (own_st (own_st (0) q0) q1))), .second, .unset, .unset, .unset, .unset, .unset, .unset, .unset] [(.long q1), (.long q0), (.int (2 : Int32)), (.ref b1)])) _
    refine XT.lload X5.here hx rfl (hb hby at_52) rfl ?_
    show Steps p.tables e below (T5.setTop (mkF m 54 #[.val (.long q0), .second, .val (.long q1), .second, .val (.long q2), .second, .val (.long q3), .second, .val (.int p4), .val (.int p5), .val (.int (2 : Int32)), .val (.ref b1), .val (.ref b2), .val (.long (own_fin (own_st (own_st (0) q0) q1))), .second, .unset, .unset, .unset, .unset, .unset, .unset, .unset] [(.long q2), (.long q1), (.long q0), (.int (2 : Int32)), (.ref b1)])) _
    refine st6 _ ?_
    show Steps p.tables e below (T6.setTop (mkF m 57 #[.val (.long q0), .second, .val (.long q1), .second, .val (.long q2), .second, .val (.long q3), .second, .val (.int p4), .val (.int p5), .val (.int (2 : Int32)), .val (.ref b1), .val (.ref b2), .val (.long (own_fin (own_st (own_st (0) q0) q1))), .second, .unset, .unset, .unset, .unset, .unset, .unset, .unset] [(.int (1 : Int32))])) _
    refine XS.ifNo X6.here hx rfl (hb hby at_57) rfl (XT.i0_eq_f (by decide)) ?_
    show Steps p.tables e below (T6.setTop (mkF m 60 #[.val (.long q0), .second, .val (.long q1), .second, .val (.long q2), .second, .val (.long q3), .second, .val (.int p4), .val (.int p5), .val (.int (2 : Int32)), .val (.ref b1), .val (.ref b2), .val (.long (own_fin (own_st (own_st (0) q0) q1))), .second, .unset, .unset, .unset, .unset, .unset, .unset, .unset] [])) _
    refine XT.iconstV X6.here hx rfl (1 : Int32) (hb hby at_60) (by decide) ?_
    show Steps p.tables e below (T6.setTop (mkF m 61 #[.val (.long q0), .second, .val (.long q1), .second, .val (.long q2), .second, .val (.long q3), .second, .val (.int p4), .val (.int p5), .val (.int (2 : Int32)), .val (.ref b1), .val (.ref b2), .val (.long (own_fin (own_st (own_st (0) q0) q1))), .second, .unset, .unset, .unset, .unset, .unset, .unset, .unset] [(.int (1 : Int32))])) _
    refine XS.goto X6.here hx rfl (pc0 := 61) (pc' := 65) rfl (hb hby at_61) (by decide) (by decide) ?_
    show Steps p.tables e below (T6.setTop (mkF m 65 #[.val (.long q0), .second, .val (.long q1), .second, .val (.long q2), .second, .val (.long q3), .second, .val (.int p4), .val (.int p5), .val (.int (2 : Int32)), .val (.ref b1), .val (.ref b2), .val (.long (own_fin (own_st (own_st (0) q0) q1))), .second, .unset, .unset, .unset, .unset, .unset, .unset, .unset] [(.int (1 : Int32))])) _
    refine XS.istore X6.here hx rfl (hb hby at_65) rfl (l' := #[.val (.long q0), .second, .val (.long q1), .second, .val (.long q2), .second, .val (.long q3), .second, .val (.int p4), .val (.int p5), .val (.int (2 : Int32)), .val (.ref b1), .val (.ref b2), .val (.long (own_fin (own_st (own_st (0) q0) q1))), .second, .val (.int (1 : Int32)), .unset, .unset, .unset, .unset, .unset, .unset]) rfl ?_
    show Steps p.tables e below (T6.setTop (mkF m 67 #[.val (.long q0), .second, .val (.long q1), .second, .val (.long q2), .second, .val (.long q3), .second, .val (.int p4), .val (.int p5), .val (.int (2 : Int32)), .val (.ref b1), .val (.ref b2), .val (.long (own_fin (own_st (own_st (0) q0) q1))), .second, .val (.int (1 : Int32)), .unset, .unset, .unset, .unset, .unset, .unset] [])) _
    refine XS.iload X6.here hx rfl (hb hby at_67) rfl ?_
    show Steps p.tables e below (T6.setTop (mkF m 69 #[.val (.long q0), .second, .val (.long q1), .second, .val (.long q2), .second, .val (.long q3), .second, .val (.int p4), .val (.int p5), .val (.int (2 : Int32)), .val (.ref b1), .val (.ref b2), .val (.long (own_fin (own_st (own_st (0) q0) q1))), .second, .val (.int (1 : Int32)), .unset, .unset, .unset, .unset, .unset, .unset] [(.int (2 : Int32))])) _
    refine XS.ifYes X6.here hx rfl (pc0 := 69) (pc' := 75) rfl (hb hby at_69) rfl (XT.i0_ne_t (by decide)) (by decide) (by decide) ?_
    show Steps p.tables e below (T6.setTop (mkF m 75 #[.val (.long q0), .second, .val (.long q1), .second, .val (.long q2), .second, .val (.long q3), .second, .val (.int p4), .val (.int p5), .val (.int (2 : Int32)), .val (.ref b1), .val (.ref b2), .val (.long (own_fin (own_st (own_st (0) q0) q1))), .second, .val (.int (1 : Int32)), .unset, .unset, .unset, .unset, .unset, .unset] [])) _
    refine XS.iload X6.here hx rfl (hb hby at_75) rfl ?_
    show Steps p.tables e below (T6.setTop (mkF m 77 #[.val (.long q0), .second, .val (.long q1), .second, .val (.long q2), .second, .val (.long q3), .second, .val (.int p4), .val (.int p5), .val (.int (2 : Int32)), .val (.ref b1), .val (.ref b2), .val (.long (own_fin (own_st (own_st (0) q0) q1))), .second, .val (.int (1 : Int32)), .unset, .unset, .unset, .unset, .unset, .unset] [(.int p5)])) _
    refine X6.ldcI hx hown (mvT hZ (hw _ (List.mem_of_getElem? (i := 14) rfl))) rfl (hb hby at_77) ?_
    show Steps p.tables e below (T6.setTop (mkF m 79 #[.val (.long q0), .second, .val (.long q1), .second, .val (.long q2), .second, .val (.long q3), .second, .val (.int p4), .val (.int p5), .val (.int (2 : Int32)), .val (.ref b1), .val (.ref b2), .val (.long (own_fin (own_st (own_st (0) q0) q1))), .second, .val (.int (1 : Int32)), .unset, .unset, .unset, .unset, .unset, .unset] [(.int (2147483647 : Int32)), (.int p5)])) _
    refine XS.iand X6.here hx rfl (hb hby at_79) rfl ?_
    show Steps p.tables e below (T6.setTop (mkF m 80 #[.val (.long q0), .second, .val (.long q1), .second, .val (.long q2), .second, .val (.long q3), .second, .val (.int p4), .val (.int p5), .val (.int (2 : Int32)), .val (.ref b1), .val (.ref b2), .val (.long (own_fin (own_st (own_st (0) q0) q1))), .second, .val (.int (1 : Int32)), .unset, .unset, .unset, .unset, .unset, .unset] [(.int (p5 &&& (2147483647 : Int32)))])) _
    refine XS.iload X6.here hx rfl (hb hby at_80) rfl ?_
    show Steps p.tables e below (T6.setTop (mkF m 82 #[.val (.long q0), .second, .val (.long q1), .second, .val (.long q2), .second, .val (.long q3), .second, .val (.int p4), .val (.int p5), .val (.int (2 : Int32)), .val (.ref b1), .val (.ref b2), .val (.long (own_fin (own_st (own_st (0) q0) q1))), .second, .val (.int (1 : Int32)), .unset, .unset, .unset, .unset, .unset, .unset] [(.int (2 : Int32)), (.int (p5 &&& (2147483647 : Int32)))])) _
    refine XS.irem X6.here hx rfl (hb hby at_82) rfl (by decide) ?_
    show Steps p.tables e below (T6.setTop (mkF m 83 #[.val (.long q0), .second, .val (.long q1), .second, .val (.long q2), .second, .val (.long q3), .second, .val (.int p4), .val (.int p5), .val (.int (2 : Int32)), .val (.ref b1), .val (.ref b2), .val (.long (own_fin (own_st (own_st (0) q0) q1))), .second, .val (.int (1 : Int32)), .unset, .unset, .unset, .unset, .unset, .unset] [(.int ((p5 &&& (2147483647 : Int32)) - ((p5 &&& (2147483647 : Int32)) / (2 : Int32)) * (2 : Int32)))])) _
    show Steps p.tables e below (T6.setTop (mkF m 83 #[.val (.long q0), .second, .val (.long q1), .second, .val (.long q2), .second, .val (.long q3), .second, .val (.int p4), .val (.int p5), .val (.int (2 : Int32)), .val (.ref b1), .val (.ref b2), .val (.long (own_fin (own_st (own_st (0) q0) q1))), .second, .val (.int (1 : Int32)), .unset, .unset, .unset, .unset, .unset, .unset] [(.int (own_P p5 (2 : Int32)))])) _
    show Steps p.tables e below (T6.setTop (mkF m 83 #[.val (.long q0), .second, .val (.long q1), .second, .val (.long q2), .second, .val (.long q3), .second, .val (.int p4), .val (.int p5), .val (.int (2 : Int32)), .val (.ref b1), .val (.ref b2), .val (.long (own_fin (own_st (own_st (0) q0) q1))), .second, .val (.int (1 : Int32)), .unset, .unset, .unset, .unset, .unset, .unset] [(.int (own_P p5 (2 : Int32)))])) _
    refine XS.istore X6.here hx rfl (hb hby at_83) rfl (l' := #[.val (.long q0), .second, .val (.long q1), .second, .val (.long q2), .second, .val (.long q3), .second, .val (.int p4), .val (.int p5), .val (.int (2 : Int32)), .val (.ref b1), .val (.ref b2), .val (.long (own_fin (own_st (own_st (0) q0) q1))), .second, .val (.int (1 : Int32)), .val (.int (own_P p5 (2 : Int32))), .unset, .unset, .unset, .unset, .unset]) rfl ?_
    show Steps p.tables e below (T6.setTop (mkF m 85 #[.val (.long q0), .second, .val (.long q1), .second, .val (.long q2), .second, .val (.long q3), .second, .val (.int p4), .val (.int p5), .val (.int (2 : Int32)), .val (.ref b1), .val (.ref b2), .val (.long (own_fin (own_st (own_st (0) q0) q1))), .second, .val (.int (1 : Int32)), .val (.int (own_P p5 (2 : Int32))), .unset, .unset, .unset, .unset, .unset] [])) _
    refine XS.iload X6.here hx rfl (hb hby at_85) rfl ?_
    show Steps p.tables e below (T6.setTop (mkF m 87 #[.val (.long q0), .second, .val (.long q1), .second, .val (.long q2), .second, .val (.long q3), .second, .val (.int p4), .val (.int p5), .val (.int (2 : Int32)), .val (.ref b1), .val (.ref b2), .val (.long (own_fin (own_st (own_st (0) q0) q1))), .second, .val (.int (1 : Int32)), .val (.int (own_P p5 (2 : Int32))), .unset, .unset, .unset, .unset, .unset] [(.int (own_P p5 (2 : Int32)))])) _
    exact k)
  by_cases hc87_8 : (own_P p5 (2 : Int32)) = (0 : Int32)
  · obtain ⟨_, _, ⟨T9, L9, k9, n9⟩, -, X9, ⟨Lc9, hQ9, l9, y9, z9⟩, st9⟩ := Jvm.LawKit.callS X6 hx (y := (⟨"com/example/bare_refinement/barerefinement/exploration/StateSpaceHashPinLaw", "make", "(IJJJ)[J"⟩ : MethodName)) hown (mvT hZ (hw _ (List.mem_of_getElem? (i := 0) rfl))) (mvT hZ (hw _ (List.mem_of_getElem? (i := 1) rfl))) (mvT hZ (hw _ (List.mem_of_getElem? (i := 2) rfl))) (mvT hZ (hw _ (List.mem_of_getElem? (i := 3) rfl))) (by decide) (backOf (W := 0) (rmMake2 l Z av0 hw [] q3 q1 q2 T2.heap n0 Z2) hZ (hw _ (List.mem_of_getElem? (i := 3) rfl)) (hw _ (List.mem_of_getElem? (i := 2) rfl)) (by decide) (by decide)) (g := (mkF m 146 #[.val (.long q0), .second, .val (.long q1), .second, .val (.long q2), .second, .val (.long q3), .second, .val (.int p4), .val (.int p5), .val (.int (2 : Int32)), .val (.ref b1), .val (.ref b2), .val (.long (own_fin (own_st (own_st (0) q0) q1))), .second, .val (.int (1 : Int32)), .val (.int (own_P p5 (2 : Int32))), .val (.long q0), .second, .unset, .unset, .unset] [(.long q2), (.long q1), (.long q3), (.int (2 : Int32))])) rfl (by rw [hml]; rfl) (argsL := [(.int (2 : Int32)), (.long q3), (.long q1), (.long q2)]) (rest := []) (lenOf pd__IJJJ_J rfl) rfl (by show 2 * 0 + _ ≤ _; exact Nat.le_of_eq rfl) (hb hby at_146) (fun _ _ => ⟨rfl, e6, (by decide : 2 + 1 ≤ _), (by decide : 4 + 2 ≤ _)⟩)
    dsimp only [Pt.U, Pt.locs, Pt.cells, Pt.slots] at X9 l9 y9 z9 st9 hQ9
    subst l9 y9 z9
    obtain ⟨b9, k9', rfl, N9q, ge9, K9, V9⟩ := hQ9
    have N9 := Fr.app N6 N9q
    have e9 : T9.heap = T9.heap := rfl
    have ne_b1_b9 : b1 ≠ b9 := Nat.ne_of_lt (Nat.lt_of_lt_of_le f3.lt ge9)
    have ne_b2_b9 : b2 ≠ b9 := Nat.ne_of_lt (Nat.lt_of_lt_of_le V2.lt ge9)
    have Z9 : n0 ≤ T9.heap.size := Nat.le_trans Z2 K9.1
    obtain ⟨_, _, ⟨T10, L10, k10, n10⟩, -, X10, ⟨Lc10, hQ10, l10, y10, z10⟩, st10⟩ := Jvm.LawKit.callS X9 hx (y := (⟨"com/example/bare_refinement/barerefinement/exploration/StateSpace", "hash", "([J)J"⟩ : MethodName)) hown (mvT hZ (hw _ (List.mem_of_getElem? (i := 5) rfl))) (mvT hZ (hw _ (List.mem_of_getElem? (i := 6) rfl))) (mvT hZ (hw _ (List.mem_of_getElem? (i := 7) rfl))) (mvT hZ (hw _ (List.mem_of_getElem? (i := 8) rfl))) (by decide) (backOf (W := 0) (rmHash2 l Z av0 hw [] b9 k9' q3 q1 T9.heap n0 Z9 V9) hZ (hw _ (List.mem_of_getElem? (i := 8) rfl)) (hw _ (List.mem_of_getElem? (i := 7) rfl)) (by decide) (by decide)) (g := (mkF m 153 #[.val (.long q0), .second, .val (.long q1), .second, .val (.long q2), .second, .val (.long q3), .second, .val (.int p4), .val (.int p5), .val (.int (2 : Int32)), .val (.ref b1), .val (.ref b2), .val (.long (own_fin (own_st (own_st (0) q0) q1))), .second, .val (.int (1 : Int32)), .val (.int (own_P p5 (2 : Int32))), .val (.long q0), .second, .val (.ref b9), .unset, .unset] [(.ref b9)])) rfl (by rw [hml]; rfl) (argsL := [(.ref b9)]) (rest := []) (lenOf pd__J_J rfl) rfl (by show 2 * 0 + _ ≤ _; exact Nat.le_of_eq rfl) (hb hby at_153) (fun _ _ => ⟨rfl, e9, (by decide : 3 + 0 ≤ _), (by decide : 6 + 0 ≤ _)⟩)
    dsimp only [Pt.U, Pt.locs, Pt.cells, Pt.slots] at X10 l10 y10 z10 st10 hQ10
    subst l10 y10 z10
    obtain ⟨rfl, N10q, hh10⟩ := hQ10
    have N10 := Fr.app N9 N10q
    have e10 : T10.heap = T9.heap := hh10
    have S11 : ∀ t, Steps p.tables e below (T10.setTop (mkF m 168 #[.val (.long q0), .second, .val (.long q1), .second, .val (.long q2), .second, .val (.long q3), .second, .val (.int p4), .val (.int p5), .val (.int (2 : Int32)), .val (.ref b1), .val (.ref b2), .val (.long (own_fin (own_st (own_st (0) q0) q1))), .second, .val (.int (1 : Int32)), .val (.int (own_P p5 (2 : Int32))), .val (.long q0), .second, .val (.ref b9), .val (.long (own_fin (own_st (own_st (0) q3) q1))), .second] [(.int (XT.cmpL (own_fin (own_st (own_st (0) q0) q1)) (own_fin (own_st (own_st (0) q3) q1))))])) t → Steps p.tables e below (s₁.setTop (mkF m 0 #[.val (.long q0), .second, .val (.long q1), .second, .val (.long q2), .second, .val (.long q3), .second, .val (.int p4), .val (.int p5), .unset, .unset, .unset, .unset, .unset, .unset, .unset, .unset, .unset, .unset, .unset, .unset] [])) t := fun t k => S7 t (by
      show Steps p.tables e below (T6.setTop (mkF m 87 #[.val (.long q0), .second, .val (.long q1), .second, .val (.long q2), .second, .val (.long q3), .second, .val (.int p4), .val (.int p5), .val (.int (2 : Int32)), .val (.ref b1), .val (.ref b2), .val (.long (own_fin (own_st (own_st (0) q0) q1))), .second, .val (.int (1 : Int32)), .val (.int (own_P p5 (2 : Int32))), .unset, .unset, .unset, .unset, .unset] [(.int (own_P p5 (2 : Int32)))])) _
      refine XS.ifNo X6.here hx rfl (hb hby at_87) rfl (XT.i0_ne_f hc87_8) ?_
      show Steps p.tables e below (T6.setTop (mkF m 90 #[.val (.long q0), .second, .val (.long q1), .second, .val (.long q2), .second, .val (.long q3), .second, .val (.int p4), .val (.int p5), .val (.int (2 : Int32)), .val (.ref b1), .val (.ref b2), .val (.long (own_fin (own_st (own_st (0) q0) q1))), .second, .val (.int (1 : Int32)), .val (.int (own_P p5 (2 : Int32))), .unset, .unset, .unset, .unset, .unset] [])) _
      refine XT.lloadN X6.here hx rfl (hb hby at_90) rfl ?_
      show Steps p.tables e below (T6.setTop (mkF m 91 #[.val (.long q0), .second, .val (.long q1), .second, .val (.long q2), .second, .val (.long q3), .second, .val (.int p4), .val (.int p5), .val (.int (2 : Int32)), .val (.ref b1), .val (.ref b2), .val (.long (own_fin (own_st (own_st (0) q0) q1))), .second, .val (.int (1 : Int32)), .val (.int (own_P p5 (2 : Int32))), .unset, .unset, .unset, .unset, .unset] [(.long q0)])) _
      refine XS.goto X6.here hx rfl (pc0 := 91) (pc' := 106) rfl (hb hby at_91) (by decide) (by decide) ?_
      show Steps p.tables e below (T6.setTop (mkF m 106 #[.val (.long q0), .second, .val (.long q1), .second, .val (.long q2), .second, .val (.long q3), .second, .val (.int p4), .val (.int p5), .val (.int (2 : Int32)), .val (.ref b1), .val (.ref b2), .val (.long (own_fin (own_st (own_st (0) q0) q1))), .second, .val (.int (1 : Int32)), .val (.int (own_P p5 (2 : Int32))), .unset, .unset, .unset, .unset, .unset] [(.long q0)])) _
      refine XT.lstore X6.here hx rfl (hb hby at_106) rfl (l' := #[.val (.long q0), .second, .val (.long q1), .second, .val (.long q2), .second, .val (.long q3), .second, .val (.int p4), .val (.int p5), .val (.int (2 : Int32)), .val (.ref b1), .val (.ref b2), .val (.long (own_fin (own_st (own_st (0) q0) q1))), .second, .val (.int (1 : Int32)), .val (.int (own_P p5 (2 : Int32))), .val (.long q0), .second, .unset, .unset, .unset]) rfl ?_
      show Steps p.tables e below (T6.setTop (mkF m 108 #[.val (.long q0), .second, .val (.long q1), .second, .val (.long q2), .second, .val (.long q3), .second, .val (.int p4), .val (.int p5), .val (.int (2 : Int32)), .val (.ref b1), .val (.ref b2), .val (.long (own_fin (own_st (own_st (0) q0) q1))), .second, .val (.int (1 : Int32)), .val (.int (own_P p5 (2 : Int32))), .val (.long q0), .second, .unset, .unset, .unset] [])) _
      refine XS.iload X6.here hx rfl (hb hby at_108) rfl ?_
      show Steps p.tables e below (T6.setTop (mkF m 110 #[.val (.long q0), .second, .val (.long q1), .second, .val (.long q2), .second, .val (.long q3), .second, .val (.int p4), .val (.int p5), .val (.int (2 : Int32)), .val (.ref b1), .val (.ref b2), .val (.long (own_fin (own_st (own_st (0) q0) q1))), .second, .val (.int (1 : Int32)), .val (.int (own_P p5 (2 : Int32))), .val (.long q0), .second, .unset, .unset, .unset] [(.int (2 : Int32))])) _
      refine XS.iload X6.here hx rfl (hb hby at_110) rfl ?_
      show Steps p.tables e below (T6.setTop (mkF m 112 #[.val (.long q0), .second, .val (.long q1), .second, .val (.long q2), .second, .val (.long q3), .second, .val (.int p4), .val (.int p5), .val (.int (2 : Int32)), .val (.ref b1), .val (.ref b2), .val (.long (own_fin (own_st (own_st (0) q0) q1))), .second, .val (.int (1 : Int32)), .val (.int (own_P p5 (2 : Int32))), .val (.long q0), .second, .unset, .unset, .unset] [(.int (own_P p5 (2 : Int32))), (.int (2 : Int32))])) _
      refine XS.ifNo X6.here hx rfl (hb hby at_112) rfl (XT.i0_ne_f hc87_8) ?_
      show Steps p.tables e below (T6.setTop (mkF m 115 #[.val (.long q0), .second, .val (.long q1), .second, .val (.long q2), .second, .val (.long q3), .second, .val (.int p4), .val (.int p5), .val (.int (2 : Int32)), .val (.ref b1), .val (.ref b2), .val (.long (own_fin (own_st (own_st (0) q0) q1))), .second, .val (.int (1 : Int32)), .val (.int (own_P p5 (2 : Int32))), .val (.long q0), .second, .unset, .unset, .unset] [(.int (2 : Int32))])) _
      refine XT.lload X6.here hx rfl (hb hby at_115) rfl ?_
      show Steps p.tables e below (T6.setTop (mkF m 117 #[.val (.long q0), .second, .val (.long q1), .second, .val (.long q2), .second, .val (.long q3), .second, .val (.int p4), .val (.int p5), .val (.int (2 : Int32)), .val (.ref b1), .val (.ref b2), .val (.long (own_fin (own_st (own_st (0) q0) q1))), .second, .val (.int (1 : Int32)), .val (.int (own_P p5 (2 : Int32))), .val (.long q0), .second, .unset, .unset, .unset] [(.long q3), (.int (2 : Int32))])) _
      refine XS.goto X6.here hx rfl (pc0 := 117) (pc' := 121) rfl (hb hby at_117) (by decide) (by decide) ?_
      show Steps p.tables e below (T6.setTop (mkF m 121 #[.val (.long q0), .second, .val (.long q1), .second, .val (.long q2), .second, .val (.long q3), .second, .val (.int p4), .val (.int p5), .val (.int (2 : Int32)), .val (.ref b1), .val (.ref b2), .val (.long (own_fin (own_st (own_st (0) q0) q1))), .second, .val (.int (1 : Int32)), .val (.int (own_P p5 (2 : Int32))), .val (.long q0), .second, .unset, .unset, .unset] [(.long q3), (.int (2 : Int32))])) _
      refine XS.iload X6.here hx rfl (hb hby at_121) rfl ?_
      show Steps p.tables e below (T6.setTop (mkF m 123 #[.val (.long q0), .second, .val (.long q1), .second, .val (.long q2), .second, .val (.long q3), .second, .val (.int p4), .val (.int p5), .val (.int (2 : Int32)), .val (.ref b1), .val (.ref b2), .val (.long (own_fin (own_st (own_st (0) q0) q1))), .second, .val (.int (1 : Int32)), .val (.int (own_P p5 (2 : Int32))), .val (.long q0), .second, .unset, .unset, .unset] [(.int (own_P p5 (2 : Int32))), (.long q3), (.int (2 : Int32))])) _
      refine XT.iconstV X6.here hx rfl (1 : Int32) (hb hby at_123) (by decide) ?_
      show Steps p.tables e below (T6.setTop (mkF m 124 #[.val (.long q0), .second, .val (.long q1), .second, .val (.long q2), .second, .val (.long q3), .second, .val (.int p4), .val (.int p5), .val (.int (2 : Int32)), .val (.ref b1), .val (.ref b2), .val (.long (own_fin (own_st (own_st (0) q0) q1))), .second, .val (.int (1 : Int32)), .val (.int (own_P p5 (2 : Int32))), .val (.long q0), .second, .unset, .unset, .unset] [(.int (1 : Int32)), (.int (own_P p5 (2 : Int32))), (.long q3), (.int (2 : Int32))])) _
      refine XS.icmpYes X6.here hx rfl (pc0 := 124) (pc' := 132) rfl (hb hby at_124) rfl (XT.ii_ne_t (by rw [hc87_8]; decide)) (by decide) (by decide) ?_
      show Steps p.tables e below (T6.setTop (mkF m 132 #[.val (.long q0), .second, .val (.long q1), .second, .val (.long q2), .second, .val (.long q3), .second, .val (.int p4), .val (.int p5), .val (.int (2 : Int32)), .val (.ref b1), .val (.ref b2), .val (.long (own_fin (own_st (own_st (0) q0) q1))), .second, .val (.int (1 : Int32)), .val (.int (own_P p5 (2 : Int32))), .val (.long q0), .second, .unset, .unset, .unset] [(.long q3), (.int (2 : Int32))])) _
      refine XT.lloadN X6.here hx rfl (hb hby at_132) rfl ?_
      show Steps p.tables e below (T6.setTop (mkF m 133 #[.val (.long q0), .second, .val (.long q1), .second, .val (.long q2), .second, .val (.long q3), .second, .val (.int p4), .val (.int p5), .val (.int (2 : Int32)), .val (.ref b1), .val (.ref b2), .val (.long (own_fin (own_st (own_st (0) q0) q1))), .second, .val (.int (1 : Int32)), .val (.int (own_P p5 (2 : Int32))), .val (.long q0), .second, .unset, .unset, .unset] [(.long q1), (.long q3), (.int (2 : Int32))])) _
      refine XS.iload X6.here hx rfl (hb hby at_133) rfl ?_
      show Steps p.tables e below (T6.setTop (mkF m 135 #[.val (.long q0), .second, .val (.long q1), .second, .val (.long q2), .second, .val (.long q3), .second, .val (.int p4), .val (.int p5), .val (.int (2 : Int32)), .val (.ref b1), .val (.ref b2), .val (.long (own_fin (own_st (own_st (0) q0) q1))), .second, .val (.int (1 : Int32)), .val (.int (own_P p5 (2 : Int32))), .val (.long q0), .second, .unset, .unset, .unset] [(.int (own_P p5 (2 : Int32))), (.long q1), (.long q3), (.int (2 : Int32))])) _
      refine XT.iconstV X6.here hx rfl (2 : Int32) (hb hby at_135) (by decide) ?_
      show Steps p.tables e below (T6.setTop (mkF m 136 #[.val (.long q0), .second, .val (.long q1), .second, .val (.long q2), .second, .val (.long q3), .second, .val (.int p4), .val (.int p5), .val (.int (2 : Int32)), .val (.ref b1), .val (.ref b2), .val (.long (own_fin (own_st (own_st (0) q0) q1))), .second, .val (.int (1 : Int32)), .val (.int (own_P p5 (2 : Int32))), .val (.long q0), .second, .unset, .unset, .unset] [(.int (2 : Int32)), (.int (own_P p5 (2 : Int32))), (.long q1), (.long q3), (.int (2 : Int32))])) _
      refine XS.icmpYes X6.here hx rfl (pc0 := 136) (pc' := 144) rfl (hb hby at_136) rfl (XT.ii_ne_t (by rw [hc87_8]; decide)) (by decide) (by decide) ?_
      show Steps p.tables e below (T6.setTop (mkF m 144 #[.val (.long q0), .second, .val (.long q1), .second, .val (.long q2), .second, .val (.long q3), .second, .val (.int p4), .val (.int p5), .val (.int (2 : Int32)), .val (.ref b1), .val (.ref b2), .val (.long (own_fin (own_st (own_st (0) q0) q1))), .second, .val (.int (1 : Int32)), .val (.int (own_P p5 (2 : Int32))), .val (.long q0), .second, .unset, .unset, .unset] [(.long q1), (.long q3), (.int (2 : Int32))])) _
      refine XT.lload X6.here hx rfl (hb hby at_144) rfl ?_
      show Steps p.tables e below (T6.setTop (mkF m 146 #[.val (.long q0), .second, .val (.long q1), .second, .val (.long q2), .second, .val (.long q3), .second, .val (.int p4), .val (.int p5), .val (.int (2 : Int32)), .val (.ref b1), .val (.ref b2), .val (.long (own_fin (own_st (own_st (0) q0) q1))), .second, .val (.int (1 : Int32)), .val (.int (own_P p5 (2 : Int32))), .val (.long q0), .second, .unset, .unset, .unset] [(.long q2), (.long q1), (.long q3), (.int (2 : Int32))])) _
      refine st9 _ ?_
      show Steps p.tables e below (T9.setTop (mkF m 149 #[.val (.long q0), .second, .val (.long q1), .second, .val (.long q2), .second, .val (.long q3), .second, .val (.int p4), .val (.int p5), .val (.int (2 : Int32)), .val (.ref b1), .val (.ref b2), .val (.long (own_fin (own_st (own_st (0) q0) q1))), .second, .val (.int (1 : Int32)), .val (.int (own_P p5 (2 : Int32))), .val (.long q0), .second, .unset, .unset, .unset] [(.ref b9)])) _
      refine XS.astore X9.here hx rfl (hb hby at_149) rfl rfl (l' := #[.val (.long q0), .second, .val (.long q1), .second, .val (.long q2), .second, .val (.long q3), .second, .val (.int p4), .val (.int p5), .val (.int (2 : Int32)), .val (.ref b1), .val (.ref b2), .val (.long (own_fin (own_st (own_st (0) q0) q1))), .second, .val (.int (1 : Int32)), .val (.int (own_P p5 (2 : Int32))), .val (.long q0), .second, .val (.ref b9), .unset, .unset]) rfl ?_
      show Steps p.tables e below (T9.setTop (mkF m 151 #[.val (.long q0), .second, .val (.long q1), .second, .val (.long q2), .second, .val (.long q3), .second, .val (.int p4), .val (.int p5), .val (.int (2 : Int32)), .val (.ref b1), .val (.ref b2), .val (.long (own_fin (own_st (own_st (0) q0) q1))), .second, .val (.int (1 : Int32)), .val (.int (own_P p5 (2 : Int32))), .val (.long q0), .second, .val (.ref b9), .unset, .unset] [])) _
      refine XS.aload X9.here hx rfl (hb hby at_151) rfl rfl ?_
      show Steps p.tables e below (T9.setTop (mkF m 153 #[.val (.long q0), .second, .val (.long q1), .second, .val (.long q2), .second, .val (.long q3), .second, .val (.int p4), .val (.int p5), .val (.int (2 : Int32)), .val (.ref b1), .val (.ref b2), .val (.long (own_fin (own_st (own_st (0) q0) q1))), .second, .val (.int (1 : Int32)), .val (.int (own_P p5 (2 : Int32))), .val (.long q0), .second, .val (.ref b9), .unset, .unset] [(.ref b9)])) _
      refine st10 _ ?_
      show Steps p.tables e below (T10.setTop (mkF m 156 #[.val (.long q0), .second, .val (.long q1), .second, .val (.long q2), .second, .val (.long q3), .second, .val (.int p4), .val (.int p5), .val (.int (2 : Int32)), .val (.ref b1), .val (.ref b2), .val (.long (own_fin (own_st (own_st (0) q0) q1))), .second, .val (.int (1 : Int32)), .val (.int (own_P p5 (2 : Int32))), .val (.long q0), .second, .val (.ref b9), .unset, .unset] [(.long (own_fin (own_st (own_st (0) q3) q1)))])) _
      refine XT.lstore X10.here hx rfl (hb hby at_156) rfl (l' := #[.val (.long q0), .second, .val (.long q1), .second, .val (.long q2), .second, .val (.long q3), .second, .val (.int p4), .val (.int p5), .val (.int (2 : Int32)), .val (.ref b1), .val (.ref b2), .val (.long (own_fin (own_st (own_st (0) q0) q1))), .second, .val (.int (1 : Int32)), .val (.int (own_P p5 (2 : Int32))), .val (.long q0), .second, .val (.ref b9), .val (.long (own_fin (own_st (own_st (0) q3) q1))), .second]) rfl ?_
      show Steps p.tables e below (T10.setTop (mkF m 158 #[.val (.long q0), .second, .val (.long q1), .second, .val (.long q2), .second, .val (.long q3), .second, .val (.int p4), .val (.int p5), .val (.int (2 : Int32)), .val (.ref b1), .val (.ref b2), .val (.long (own_fin (own_st (own_st (0) q0) q1))), .second, .val (.int (1 : Int32)), .val (.int (own_P p5 (2 : Int32))), .val (.long q0), .second, .val (.ref b9), .val (.long (own_fin (own_st (own_st (0) q3) q1))), .second] [])) _
      refine XS.iload X10.here hx rfl (hb hby at_158) rfl ?_
      show Steps p.tables e below (T10.setTop (mkF m 160 #[.val (.long q0), .second, .val (.long q1), .second, .val (.long q2), .second, .val (.long q3), .second, .val (.int p4), .val (.int p5), .val (.int (2 : Int32)), .val (.ref b1), .val (.ref b2), .val (.long (own_fin (own_st (own_st (0) q0) q1))), .second, .val (.int (1 : Int32)), .val (.int (own_P p5 (2 : Int32))), .val (.long q0), .second, .val (.ref b9), .val (.long (own_fin (own_st (own_st (0) q3) q1))), .second] [(.int (1 : Int32))])) _
      refine XS.ifNo X10.here hx rfl (hb hby at_160) rfl (XT.i0_eq_f (by decide)) ?_
      show Steps p.tables e below (T10.setTop (mkF m 163 #[.val (.long q0), .second, .val (.long q1), .second, .val (.long q2), .second, .val (.long q3), .second, .val (.int p4), .val (.int p5), .val (.int (2 : Int32)), .val (.ref b1), .val (.ref b2), .val (.long (own_fin (own_st (own_st (0) q0) q1))), .second, .val (.int (1 : Int32)), .val (.int (own_P p5 (2 : Int32))), .val (.long q0), .second, .val (.ref b9), .val (.long (own_fin (own_st (own_st (0) q3) q1))), .second] [])) _
      refine XT.lload X10.here hx rfl (hb hby at_163) rfl ?_
      show Steps p.tables e below (T10.setTop (mkF m 165 #[.val (.long q0), .second, .val (.long q1), .second, .val (.long q2), .second, .val (.long q3), .second, .val (.int p4), .val (.int p5), .val (.int (2 : Int32)), .val (.ref b1), .val (.ref b2), .val (.long (own_fin (own_st (own_st (0) q0) q1))), .second, .val (.int (1 : Int32)), .val (.int (own_P p5 (2 : Int32))), .val (.long q0), .second, .val (.ref b9), .val (.long (own_fin (own_st (own_st (0) q3) q1))), .second] [(.long (own_fin (own_st (own_st (0) q0) q1)))])) _
      refine XT.lload X10.here hx rfl (hb hby at_165) rfl ?_
      show Steps p.tables e below (T10.setTop (mkF m 167 #[.val (.long q0), .second, .val (.long q1), .second, .val (.long q2), .second, .val (.long q3), .second, .val (.int p4), .val (.int p5), .val (.int (2 : Int32)), .val (.ref b1), .val (.ref b2), .val (.long (own_fin (own_st (own_st (0) q0) q1))), .second, .val (.int (1 : Int32)), .val (.int (own_P p5 (2 : Int32))), .val (.long q0), .second, .val (.ref b9), .val (.long (own_fin (own_st (own_st (0) q3) q1))), .second] [(.long (own_fin (own_st (own_st (0) q3) q1))), (.long (own_fin (own_st (own_st (0) q0) q1)))])) _
      refine XT.lcmp X10.here hx rfl (hb hby at_167) rfl ?_
      show Steps p.tables e below (T10.setTop (mkF m 168 #[.val (.long q0), .second, .val (.long q1), .second, .val (.long q2), .second, .val (.long q3), .second, .val (.int p4), .val (.int p5), .val (.int (2 : Int32)), .val (.ref b1), .val (.ref b2), .val (.long (own_fin (own_st (own_st (0) q0) q1))), .second, .val (.int (1 : Int32)), .val (.int (own_P p5 (2 : Int32))), .val (.long q0), .second, .val (.ref b9), .val (.long (own_fin (own_st (own_st (0) q3) q1))), .second] [(.int (XT.cmpL (own_fin (own_st (own_st (0) q0) q1)) (own_fin (own_st (own_st (0) q3) q1))))])) _
      exact k)
    by_cases hc168_12 : (own_fin (own_st (own_st (0) q0) q1)) = (own_fin (own_st (own_st (0) q3) q1))
    · have S13 : ∀ t, Steps p.tables e below (T10.setTop (mkF m 197 #[.val (.long q0), .second, .val (.long q1), .second, .val (.long q2), .second, .val (.long q3), .second, .val (.int p4), .val (.int p5), .val (.int (2 : Int32)), .val (.ref b1), .val (.ref b2), .val (.long (own_fin (own_st (own_st (0) q0) q1))), .second, .val (.int (1 : Int32)), .val (.int (own_P p5 (2 : Int32))), .val (.long q0), .second, .val (.ref b9), .val (.long (own_fin (own_st (own_st (0) q3) q1))), .second] [(.int (1 : Int32))])) t → Steps p.tables e below (s₁.setTop (mkF m 0 #[.val (.long q0), .second, .val (.long q1), .second, .val (.long q2), .second, .val (.long q3), .second, .val (.int p4), .val (.int p5), .unset, .unset, .unset, .unset, .unset, .unset, .unset, .unset, .unset, .unset, .unset, .unset] [])) t := fun t k => S11 t (by
        show Steps p.tables e below (T10.setTop (mkF m 168 #[.val (.long q0), .second, .val (.long q1), .second, .val (.long q2), .second, .val (.long q3), .second, .val (.int p4), .val (.int p5), .val (.int (2 : Int32)), .val (.ref b1), .val (.ref b2), .val (.long (own_fin (own_st (own_st (0) q0) q1))), .second, .val (.int (1 : Int32)), .val (.int (own_P p5 (2 : Int32))), .val (.long q0), .second, .val (.ref b9), .val (.long (own_fin (own_st (own_st (0) q3) q1))), .second] [(.int (XT.cmpL (own_fin (own_st (own_st (0) q0) q1)) (own_fin (own_st (own_st (0) q3) q1))))])) _
        refine XS.ifNo X10.here hx rfl (hb hby at_168) rfl (XT.ll_ne_f hc168_12) ?_
        show Steps p.tables e below (T10.setTop (mkF m 171 #[.val (.long q0), .second, .val (.long q1), .second, .val (.long q2), .second, .val (.long q3), .second, .val (.int p4), .val (.int p5), .val (.int (2 : Int32)), .val (.ref b1), .val (.ref b2), .val (.long (own_fin (own_st (own_st (0) q0) q1))), .second, .val (.int (1 : Int32)), .val (.int (own_P p5 (2 : Int32))), .val (.long q0), .second, .val (.ref b9), .val (.long (own_fin (own_st (own_st (0) q3) q1))), .second] [])) _
        refine XT.iconstV X10.here hx rfl (1 : Int32) (hb hby at_171) (by decide) ?_
        show Steps p.tables e below (T10.setTop (mkF m 172 #[.val (.long q0), .second, .val (.long q1), .second, .val (.long q2), .second, .val (.long q3), .second, .val (.int p4), .val (.int p5), .val (.int (2 : Int32)), .val (.ref b1), .val (.ref b2), .val (.long (own_fin (own_st (own_st (0) q0) q1))), .second, .val (.int (1 : Int32)), .val (.int (own_P p5 (2 : Int32))), .val (.long q0), .second, .val (.ref b9), .val (.long (own_fin (own_st (own_st (0) q3) q1))), .second] [(.int (1 : Int32))])) _
        refine XS.goto X10.here hx rfl (pc0 := 172) (pc' := 176) rfl (hb hby at_172) (by decide) (by decide) ?_
        show Steps p.tables e below (T10.setTop (mkF m 176 #[.val (.long q0), .second, .val (.long q1), .second, .val (.long q2), .second, .val (.long q3), .second, .val (.int p4), .val (.int p5), .val (.int (2 : Int32)), .val (.ref b1), .val (.ref b2), .val (.long (own_fin (own_st (own_st (0) q0) q1))), .second, .val (.int (1 : Int32)), .val (.int (own_P p5 (2 : Int32))), .val (.long q0), .second, .val (.ref b9), .val (.long (own_fin (own_st (own_st (0) q3) q1))), .second] [(.int (1 : Int32))])) _
        refine XT.lload X10.here hx rfl (hb hby at_176) rfl ?_
        show Steps p.tables e below (T10.setTop (mkF m 178 #[.val (.long q0), .second, .val (.long q1), .second, .val (.long q2), .second, .val (.long q3), .second, .val (.int p4), .val (.int p5), .val (.int (2 : Int32)), .val (.ref b1), .val (.ref b2), .val (.long (own_fin (own_st (own_st (0) q0) q1))), .second, .val (.int (1 : Int32)), .val (.int (own_P p5 (2 : Int32))), .val (.long q0), .second, .val (.ref b9), .val (.long (own_fin (own_st (own_st (0) q3) q1))), .second] [(.long q0), (.int (1 : Int32))])) _
        refine XT.lload X10.here hx rfl (hb hby at_178) rfl ?_
        show Steps p.tables e below (T10.setTop (mkF m 180 #[.val (.long q0), .second, .val (.long q1), .second, .val (.long q2), .second, .val (.long q3), .second, .val (.int p4), .val (.int p5), .val (.int (2 : Int32)), .val (.ref b1), .val (.ref b2), .val (.long (own_fin (own_st (own_st (0) q0) q1))), .second, .val (.int (1 : Int32)), .val (.int (own_P p5 (2 : Int32))), .val (.long q0), .second, .val (.ref b9), .val (.long (own_fin (own_st (own_st (0) q3) q1))), .second] [(.long q3), (.long q0), (.int (1 : Int32))])) _
        refine XT.lcmp X10.here hx rfl (hb hby at_180) rfl ?_
        show Steps p.tables e below (T10.setTop (mkF m 181 #[.val (.long q0), .second, .val (.long q1), .second, .val (.long q2), .second, .val (.long q3), .second, .val (.int p4), .val (.int p5), .val (.int (2 : Int32)), .val (.ref b1), .val (.ref b2), .val (.long (own_fin (own_st (own_st (0) q0) q1))), .second, .val (.int (1 : Int32)), .val (.int (own_P p5 (2 : Int32))), .val (.long q0), .second, .val (.ref b9), .val (.long (own_fin (own_st (own_st (0) q3) q1))), .second] [(.int (XT.cmpL q0 q3)), (.int (1 : Int32))])) _
        refine XS.ifNo X10.here hx rfl (hb hby at_181) rfl (XT.ll_ne_f (own_inj2_q0 hc168_12)) ?_
        show Steps p.tables e below (T10.setTop (mkF m 184 #[.val (.long q0), .second, .val (.long q1), .second, .val (.long q2), .second, .val (.long q3), .second, .val (.int p4), .val (.int p5), .val (.int (2 : Int32)), .val (.ref b1), .val (.ref b2), .val (.long (own_fin (own_st (own_st (0) q0) q1))), .second, .val (.int (1 : Int32)), .val (.int (own_P p5 (2 : Int32))), .val (.long q0), .second, .val (.ref b9), .val (.long (own_fin (own_st (own_st (0) q3) q1))), .second] [(.int (1 : Int32))])) _
        refine XT.iconstV X10.here hx rfl (1 : Int32) (hb hby at_184) (by decide) ?_
        show Steps p.tables e below (T10.setTop (mkF m 185 #[.val (.long q0), .second, .val (.long q1), .second, .val (.long q2), .second, .val (.long q3), .second, .val (.int p4), .val (.int p5), .val (.int (2 : Int32)), .val (.ref b1), .val (.ref b2), .val (.long (own_fin (own_st (own_st (0) q0) q1))), .second, .val (.int (1 : Int32)), .val (.int (own_P p5 (2 : Int32))), .val (.long q0), .second, .val (.ref b9), .val (.long (own_fin (own_st (own_st (0) q3) q1))), .second] [(.int (1 : Int32)), (.int (1 : Int32))])) _
        refine XS.goto X10.here hx rfl (pc0 := 185) (pc' := 189) rfl (hb hby at_185) (by decide) (by decide) ?_
        show Steps p.tables e below (T10.setTop (mkF m 189 #[.val (.long q0), .second, .val (.long q1), .second, .val (.long q2), .second, .val (.long q3), .second, .val (.int p4), .val (.int p5), .val (.int (2 : Int32)), .val (.ref b1), .val (.ref b2), .val (.long (own_fin (own_st (own_st (0) q0) q1))), .second, .val (.int (1 : Int32)), .val (.int (own_P p5 (2 : Int32))), .val (.long q0), .second, .val (.ref b9), .val (.long (own_fin (own_st (own_st (0) q3) q1))), .second] [(.int (1 : Int32)), (.int (1 : Int32))])) _
        refine XS.icmpNo X10.here hx rfl (hb hby at_189) rfl (XT.ii_ne_f (by decide)) ?_
        show Steps p.tables e below (T10.setTop (mkF m 192 #[.val (.long q0), .second, .val (.long q1), .second, .val (.long q2), .second, .val (.long q3), .second, .val (.int p4), .val (.int p5), .val (.int (2 : Int32)), .val (.ref b1), .val (.ref b2), .val (.long (own_fin (own_st (own_st (0) q0) q1))), .second, .val (.int (1 : Int32)), .val (.int (own_P p5 (2 : Int32))), .val (.long q0), .second, .val (.ref b9), .val (.long (own_fin (own_st (own_st (0) q3) q1))), .second] [])) _
        refine XT.iconstV X10.here hx rfl (1 : Int32) (hb hby at_192) (by decide) ?_
        show Steps p.tables e below (T10.setTop (mkF m 193 #[.val (.long q0), .second, .val (.long q1), .second, .val (.long q2), .second, .val (.long q3), .second, .val (.int p4), .val (.int p5), .val (.int (2 : Int32)), .val (.ref b1), .val (.ref b2), .val (.long (own_fin (own_st (own_st (0) q0) q1))), .second, .val (.int (1 : Int32)), .val (.int (own_P p5 (2 : Int32))), .val (.long q0), .second, .val (.ref b9), .val (.long (own_fin (own_st (own_st (0) q3) q1))), .second] [(.int (1 : Int32))])) _
        refine XS.goto X10.here hx rfl (pc0 := 193) (pc' := 197) rfl (hb hby at_193) (by decide) (by decide) ?_
        show Steps p.tables e below (T10.setTop (mkF m 197 #[.val (.long q0), .second, .val (.long q1), .second, .val (.long q2), .second, .val (.long q3), .second, .val (.int p4), .val (.int p5), .val (.int (2 : Int32)), .val (.ref b1), .val (.ref b2), .val (.long (own_fin (own_st (own_st (0) q0) q1))), .second, .val (.int (1 : Int32)), .val (.int (own_P p5 (2 : Int32))), .val (.long q0), .second, .val (.ref b9), .val (.long (own_fin (own_st (own_st (0) q3) q1))), .second] [(.int (1 : Int32))])) _
        exact k)
      obtain ⟨fs, hr, hrun, hended, hW, hsame⟩ := X10.leave (v := some (.int (1 : Int32))) (fun h => by rw [Bd.returns] at h; cases h)
      refine ⟨_, _, pre0 _ (S13 _ ?_), hrun, hended, _, _, rfl, ?_, ⟨_, rfl⟩, hW, hsame.mono (by decide) (by decide)⟩
      · exact retN X10 hx (t := .boolean) Bd.returns (by simp) (hb hby at_197) hr
      · show Qrm0 Z q0 q1 q2 q3 p4 p5 h0 n0 _ T10.heap _
        rw [e10]
        exact ⟨rfl, N10⟩
    · have S14 : ∀ t, Steps p.tables e below (T10.setTop (mkF m 197 #[.val (.long q0), .second, .val (.long q1), .second, .val (.long q2), .second, .val (.long q3), .second, .val (.int p4), .val (.int p5), .val (.int (2 : Int32)), .val (.ref b1), .val (.ref b2), .val (.long (own_fin (own_st (own_st (0) q0) q1))), .second, .val (.int (1 : Int32)), .val (.int (own_P p5 (2 : Int32))), .val (.long q0), .second, .val (.ref b9), .val (.long (own_fin (own_st (own_st (0) q3) q1))), .second] [(.int (1 : Int32))])) t → Steps p.tables e below (s₁.setTop (mkF m 0 #[.val (.long q0), .second, .val (.long q1), .second, .val (.long q2), .second, .val (.long q3), .second, .val (.int p4), .val (.int p5), .unset, .unset, .unset, .unset, .unset, .unset, .unset, .unset, .unset, .unset, .unset, .unset] [])) t := fun t k => S11 t (by
        show Steps p.tables e below (T10.setTop (mkF m 168 #[.val (.long q0), .second, .val (.long q1), .second, .val (.long q2), .second, .val (.long q3), .second, .val (.int p4), .val (.int p5), .val (.int (2 : Int32)), .val (.ref b1), .val (.ref b2), .val (.long (own_fin (own_st (own_st (0) q0) q1))), .second, .val (.int (1 : Int32)), .val (.int (own_P p5 (2 : Int32))), .val (.long q0), .second, .val (.ref b9), .val (.long (own_fin (own_st (own_st (0) q3) q1))), .second] [(.int (XT.cmpL (own_fin (own_st (own_st (0) q0) q1)) (own_fin (own_st (own_st (0) q3) q1))))])) _
        refine XS.ifYes X10.here hx rfl (pc0 := 168) (pc' := 175) rfl (hb hby at_168) rfl (XT.ll_ne_t hc168_12) (by decide) (by decide) ?_
        show Steps p.tables e below (T10.setTop (mkF m 175 #[.val (.long q0), .second, .val (.long q1), .second, .val (.long q2), .second, .val (.long q3), .second, .val (.int p4), .val (.int p5), .val (.int (2 : Int32)), .val (.ref b1), .val (.ref b2), .val (.long (own_fin (own_st (own_st (0) q0) q1))), .second, .val (.int (1 : Int32)), .val (.int (own_P p5 (2 : Int32))), .val (.long q0), .second, .val (.ref b9), .val (.long (own_fin (own_st (own_st (0) q3) q1))), .second] [])) _
        refine XT.iconstV X10.here hx rfl (0 : Int32) (hb hby at_175) (by decide) ?_
        show Steps p.tables e below (T10.setTop (mkF m 176 #[.val (.long q0), .second, .val (.long q1), .second, .val (.long q2), .second, .val (.long q3), .second, .val (.int p4), .val (.int p5), .val (.int (2 : Int32)), .val (.ref b1), .val (.ref b2), .val (.long (own_fin (own_st (own_st (0) q0) q1))), .second, .val (.int (1 : Int32)), .val (.int (own_P p5 (2 : Int32))), .val (.long q0), .second, .val (.ref b9), .val (.long (own_fin (own_st (own_st (0) q3) q1))), .second] [(.int (0 : Int32))])) _
        refine XT.lload X10.here hx rfl (hb hby at_176) rfl ?_
        show Steps p.tables e below (T10.setTop (mkF m 178 #[.val (.long q0), .second, .val (.long q1), .second, .val (.long q2), .second, .val (.long q3), .second, .val (.int p4), .val (.int p5), .val (.int (2 : Int32)), .val (.ref b1), .val (.ref b2), .val (.long (own_fin (own_st (own_st (0) q0) q1))), .second, .val (.int (1 : Int32)), .val (.int (own_P p5 (2 : Int32))), .val (.long q0), .second, .val (.ref b9), .val (.long (own_fin (own_st (own_st (0) q3) q1))), .second] [(.long q0), (.int (0 : Int32))])) _
        refine XT.lload X10.here hx rfl (hb hby at_178) rfl ?_
        show Steps p.tables e below (T10.setTop (mkF m 180 #[.val (.long q0), .second, .val (.long q1), .second, .val (.long q2), .second, .val (.long q3), .second, .val (.int p4), .val (.int p5), .val (.int (2 : Int32)), .val (.ref b1), .val (.ref b2), .val (.long (own_fin (own_st (own_st (0) q0) q1))), .second, .val (.int (1 : Int32)), .val (.int (own_P p5 (2 : Int32))), .val (.long q0), .second, .val (.ref b9), .val (.long (own_fin (own_st (own_st (0) q3) q1))), .second] [(.long q3), (.long q0), (.int (0 : Int32))])) _
        refine XT.lcmp X10.here hx rfl (hb hby at_180) rfl ?_
        show Steps p.tables e below (T10.setTop (mkF m 181 #[.val (.long q0), .second, .val (.long q1), .second, .val (.long q2), .second, .val (.long q3), .second, .val (.int p4), .val (.int p5), .val (.int (2 : Int32)), .val (.ref b1), .val (.ref b2), .val (.long (own_fin (own_st (own_st (0) q0) q1))), .second, .val (.int (1 : Int32)), .val (.int (own_P p5 (2 : Int32))), .val (.long q0), .second, .val (.ref b9), .val (.long (own_fin (own_st (own_st (0) q3) q1))), .second] [(.int (XT.cmpL q0 q3)), (.int (0 : Int32))])) _
        refine XS.ifYes X10.here hx rfl (pc0 := 181) (pc' := 188) rfl (hb hby at_181) rfl (XT.ll_ne_t (fun q => hc168_12 (by rw [q]))) (by decide) (by decide) ?_
        show Steps p.tables e below (T10.setTop (mkF m 188 #[.val (.long q0), .second, .val (.long q1), .second, .val (.long q2), .second, .val (.long q3), .second, .val (.int p4), .val (.int p5), .val (.int (2 : Int32)), .val (.ref b1), .val (.ref b2), .val (.long (own_fin (own_st (own_st (0) q0) q1))), .second, .val (.int (1 : Int32)), .val (.int (own_P p5 (2 : Int32))), .val (.long q0), .second, .val (.ref b9), .val (.long (own_fin (own_st (own_st (0) q3) q1))), .second] [(.int (0 : Int32))])) _
        refine XT.iconstV X10.here hx rfl (0 : Int32) (hb hby at_188) (by decide) ?_
        show Steps p.tables e below (T10.setTop (mkF m 189 #[.val (.long q0), .second, .val (.long q1), .second, .val (.long q2), .second, .val (.long q3), .second, .val (.int p4), .val (.int p5), .val (.int (2 : Int32)), .val (.ref b1), .val (.ref b2), .val (.long (own_fin (own_st (own_st (0) q0) q1))), .second, .val (.int (1 : Int32)), .val (.int (own_P p5 (2 : Int32))), .val (.long q0), .second, .val (.ref b9), .val (.long (own_fin (own_st (own_st (0) q3) q1))), .second] [(.int (0 : Int32)), (.int (0 : Int32))])) _
        refine XS.icmpNo X10.here hx rfl (hb hby at_189) rfl (XT.ii_ne_f (by decide)) ?_
        show Steps p.tables e below (T10.setTop (mkF m 192 #[.val (.long q0), .second, .val (.long q1), .second, .val (.long q2), .second, .val (.long q3), .second, .val (.int p4), .val (.int p5), .val (.int (2 : Int32)), .val (.ref b1), .val (.ref b2), .val (.long (own_fin (own_st (own_st (0) q0) q1))), .second, .val (.int (1 : Int32)), .val (.int (own_P p5 (2 : Int32))), .val (.long q0), .second, .val (.ref b9), .val (.long (own_fin (own_st (own_st (0) q3) q1))), .second] [])) _
        refine XT.iconstV X10.here hx rfl (1 : Int32) (hb hby at_192) (by decide) ?_
        show Steps p.tables e below (T10.setTop (mkF m 193 #[.val (.long q0), .second, .val (.long q1), .second, .val (.long q2), .second, .val (.long q3), .second, .val (.int p4), .val (.int p5), .val (.int (2 : Int32)), .val (.ref b1), .val (.ref b2), .val (.long (own_fin (own_st (own_st (0) q0) q1))), .second, .val (.int (1 : Int32)), .val (.int (own_P p5 (2 : Int32))), .val (.long q0), .second, .val (.ref b9), .val (.long (own_fin (own_st (own_st (0) q3) q1))), .second] [(.int (1 : Int32))])) _
        refine XS.goto X10.here hx rfl (pc0 := 193) (pc' := 197) rfl (hb hby at_193) (by decide) (by decide) ?_
        show Steps p.tables e below (T10.setTop (mkF m 197 #[.val (.long q0), .second, .val (.long q1), .second, .val (.long q2), .second, .val (.long q3), .second, .val (.int p4), .val (.int p5), .val (.int (2 : Int32)), .val (.ref b1), .val (.ref b2), .val (.long (own_fin (own_st (own_st (0) q0) q1))), .second, .val (.int (1 : Int32)), .val (.int (own_P p5 (2 : Int32))), .val (.long q0), .second, .val (.ref b9), .val (.long (own_fin (own_st (own_st (0) q3) q1))), .second] [(.int (1 : Int32))])) _
        exact k)
      obtain ⟨fs, hr, hrun, hended, hW, hsame⟩ := X10.leave (v := some (.int (1 : Int32))) (fun h => by rw [Bd.returns] at h; cases h)
      refine ⟨_, _, pre0 _ (S14 _ ?_), hrun, hended, _, _, rfl, ?_, ⟨_, rfl⟩, hW, hsame.mono (by decide) (by decide)⟩
      · exact retN X10 hx (t := .boolean) Bd.returns (by simp) (hb hby at_197) hr
      · show Qrm0 Z q0 q1 q2 q3 p4 p5 h0 n0 _ T10.heap _
        rw [e10]
        exact ⟨rfl, N10⟩
  · obtain ⟨_, _, ⟨T15, L15, k15, n15⟩, -, X15, ⟨Lc15, hQ15, l15, y15, z15⟩, st15⟩ := Jvm.LawKit.callS X6 hx (y := (⟨"com/example/bare_refinement/barerefinement/exploration/StateSpaceHashPinLaw", "make", "(IJJJ)[J"⟩ : MethodName)) hown (mvT hZ (hw _ (List.mem_of_getElem? (i := 0) rfl))) (mvT hZ (hw _ (List.mem_of_getElem? (i := 1) rfl))) (mvT hZ (hw _ (List.mem_of_getElem? (i := 2) rfl))) (mvT hZ (hw _ (List.mem_of_getElem? (i := 3) rfl))) (by decide) (backOf (W := 0) (rmMake2 l Z av0 hw [] q0 q3 q2 T2.heap n0 Z2) hZ (hw _ (List.mem_of_getElem? (i := 3) rfl)) (hw _ (List.mem_of_getElem? (i := 2) rfl)) (by decide) (by decide)) (g := (mkF m 146 #[.val (.long q0), .second, .val (.long q1), .second, .val (.long q2), .second, .val (.long q3), .second, .val (.int p4), .val (.int p5), .val (.int (2 : Int32)), .val (.ref b1), .val (.ref b2), .val (.long (own_fin (own_st (own_st (0) q0) q1))), .second, .val (.int (1 : Int32)), .val (.int (own_P p5 (2 : Int32))), .val (.long q1), .second, .unset, .unset, .unset] [(.long q2), (.long q3), (.long q0), (.int (2 : Int32))])) rfl (by rw [hml]; rfl) (argsL := [(.int (2 : Int32)), (.long q0), (.long q3), (.long q2)]) (rest := []) (lenOf pd__IJJJ_J rfl) rfl (by show 2 * 0 + _ ≤ _; exact Nat.le_of_eq rfl) (hb hby at_146) (fun _ _ => ⟨rfl, e6, (by decide : 2 + 1 ≤ _), (by decide : 4 + 2 ≤ _)⟩)
    dsimp only [Pt.U, Pt.locs, Pt.cells, Pt.slots] at X15 l15 y15 z15 st15 hQ15
    subst l15 y15 z15
    obtain ⟨b15, k15', rfl, N15q, ge15, K15, V15⟩ := hQ15
    have N15 := Fr.app N6 N15q
    have e15 : T15.heap = T15.heap := rfl
    have ne_b1_b15 : b1 ≠ b15 := Nat.ne_of_lt (Nat.lt_of_lt_of_le f3.lt ge15)
    have ne_b2_b15 : b2 ≠ b15 := Nat.ne_of_lt (Nat.lt_of_lt_of_le V2.lt ge15)
    have Z15 : n0 ≤ T15.heap.size := Nat.le_trans Z2 K15.1
    obtain ⟨_, _, ⟨T16, L16, k16, n16⟩, -, X16, ⟨Lc16, hQ16, l16, y16, z16⟩, st16⟩ := Jvm.LawKit.callS X15 hx (y := (⟨"com/example/bare_refinement/barerefinement/exploration/StateSpace", "hash", "([J)J"⟩ : MethodName)) hown (mvT hZ (hw _ (List.mem_of_getElem? (i := 5) rfl))) (mvT hZ (hw _ (List.mem_of_getElem? (i := 6) rfl))) (mvT hZ (hw _ (List.mem_of_getElem? (i := 7) rfl))) (mvT hZ (hw _ (List.mem_of_getElem? (i := 8) rfl))) (by decide) (backOf (W := 0) (rmHash2 l Z av0 hw [] b15 k15' q0 q3 T15.heap n0 Z15 V15) hZ (hw _ (List.mem_of_getElem? (i := 8) rfl)) (hw _ (List.mem_of_getElem? (i := 7) rfl)) (by decide) (by decide)) (g := (mkF m 153 #[.val (.long q0), .second, .val (.long q1), .second, .val (.long q2), .second, .val (.long q3), .second, .val (.int p4), .val (.int p5), .val (.int (2 : Int32)), .val (.ref b1), .val (.ref b2), .val (.long (own_fin (own_st (own_st (0) q0) q1))), .second, .val (.int (1 : Int32)), .val (.int (own_P p5 (2 : Int32))), .val (.long q1), .second, .val (.ref b15), .unset, .unset] [(.ref b15)])) rfl (by rw [hml]; rfl) (argsL := [(.ref b15)]) (rest := []) (lenOf pd__J_J rfl) rfl (by show 2 * 0 + _ ≤ _; exact Nat.le_of_eq rfl) (hb hby at_153) (fun _ _ => ⟨rfl, e15, (by decide : 3 + 0 ≤ _), (by decide : 6 + 0 ≤ _)⟩)
    dsimp only [Pt.U, Pt.locs, Pt.cells, Pt.slots] at X16 l16 y16 z16 st16 hQ16
    subst l16 y16 z16
    obtain ⟨rfl, N16q, hh16⟩ := hQ16
    have N16 := Fr.app N15 N16q
    have e16 : T16.heap = T15.heap := hh16
    have S17 : ∀ t, Steps p.tables e below (T16.setTop (mkF m 168 #[.val (.long q0), .second, .val (.long q1), .second, .val (.long q2), .second, .val (.long q3), .second, .val (.int p4), .val (.int p5), .val (.int (2 : Int32)), .val (.ref b1), .val (.ref b2), .val (.long (own_fin (own_st (own_st (0) q0) q1))), .second, .val (.int (1 : Int32)), .val (.int (own_P p5 (2 : Int32))), .val (.long q1), .second, .val (.ref b15), .val (.long (own_fin (own_st (own_st (0) q0) q3))), .second] [(.int (XT.cmpL (own_fin (own_st (own_st (0) q0) q1)) (own_fin (own_st (own_st (0) q0) q3))))])) t → Steps p.tables e below (s₁.setTop (mkF m 0 #[.val (.long q0), .second, .val (.long q1), .second, .val (.long q2), .second, .val (.long q3), .second, .val (.int p4), .val (.int p5), .unset, .unset, .unset, .unset, .unset, .unset, .unset, .unset, .unset, .unset, .unset, .unset] [])) t := fun t k => S7 t (by
      show Steps p.tables e below (T6.setTop (mkF m 87 #[.val (.long q0), .second, .val (.long q1), .second, .val (.long q2), .second, .val (.long q3), .second, .val (.int p4), .val (.int p5), .val (.int (2 : Int32)), .val (.ref b1), .val (.ref b2), .val (.long (own_fin (own_st (own_st (0) q0) q1))), .second, .val (.int (1 : Int32)), .val (.int (own_P p5 (2 : Int32))), .unset, .unset, .unset, .unset, .unset] [(.int (own_P p5 (2 : Int32)))])) _
      refine XS.ifYes X6.here hx rfl (pc0 := 87) (pc' := 94) rfl (hb hby at_87) rfl (XT.i0_ne_t hc87_8) (by decide) (by decide) ?_
      show Steps p.tables e below (T6.setTop (mkF m 94 #[.val (.long q0), .second, .val (.long q1), .second, .val (.long q2), .second, .val (.long q3), .second, .val (.int p4), .val (.int p5), .val (.int (2 : Int32)), .val (.ref b1), .val (.ref b2), .val (.long (own_fin (own_st (own_st (0) q0) q1))), .second, .val (.int (1 : Int32)), .val (.int (own_P p5 (2 : Int32))), .unset, .unset, .unset, .unset, .unset] [])) _
      refine XS.iload X6.here hx rfl (hb hby at_94) rfl ?_
      show Steps p.tables e below (T6.setTop (mkF m 96 #[.val (.long q0), .second, .val (.long q1), .second, .val (.long q2), .second, .val (.long q3), .second, .val (.int p4), .val (.int p5), .val (.int (2 : Int32)), .val (.ref b1), .val (.ref b2), .val (.long (own_fin (own_st (own_st (0) q0) q1))), .second, .val (.int (1 : Int32)), .val (.int (own_P p5 (2 : Int32))), .unset, .unset, .unset, .unset, .unset] [(.int (own_P p5 (2 : Int32)))])) _
      refine XT.iconstV X6.here hx rfl (1 : Int32) (hb hby at_96) (by decide) ?_
      show Steps p.tables e below (T6.setTop (mkF m 97 #[.val (.long q0), .second, .val (.long q1), .second, .val (.long q2), .second, .val (.long q3), .second, .val (.int p4), .val (.int p5), .val (.int (2 : Int32)), .val (.ref b1), .val (.ref b2), .val (.long (own_fin (own_st (own_st (0) q0) q1))), .second, .val (.int (1 : Int32)), .val (.int (own_P p5 (2 : Int32))), .unset, .unset, .unset, .unset, .unset] [(.int (1 : Int32)), (.int (own_P p5 (2 : Int32)))])) _
      refine XS.icmpNo X6.here hx rfl (hb hby at_97) rfl (XT.ii_ne_f (own_P2 p5 hc87_8)) ?_
      show Steps p.tables e below (T6.setTop (mkF m 100 #[.val (.long q0), .second, .val (.long q1), .second, .val (.long q2), .second, .val (.long q3), .second, .val (.int p4), .val (.int p5), .val (.int (2 : Int32)), .val (.ref b1), .val (.ref b2), .val (.long (own_fin (own_st (own_st (0) q0) q1))), .second, .val (.int (1 : Int32)), .val (.int (own_P p5 (2 : Int32))), .unset, .unset, .unset, .unset, .unset] [])) _
      refine XT.lloadN X6.here hx rfl (hb hby at_100) rfl ?_
      show Steps p.tables e below (T6.setTop (mkF m 101 #[.val (.long q0), .second, .val (.long q1), .second, .val (.long q2), .second, .val (.long q3), .second, .val (.int p4), .val (.int p5), .val (.int (2 : Int32)), .val (.ref b1), .val (.ref b2), .val (.long (own_fin (own_st (own_st (0) q0) q1))), .second, .val (.int (1 : Int32)), .val (.int (own_P p5 (2 : Int32))), .unset, .unset, .unset, .unset, .unset] [(.long q1)])) _
      refine XS.goto X6.here hx rfl (pc0 := 101) (pc' := 106) rfl (hb hby at_101) (by decide) (by decide) ?_
      show Steps p.tables e below (T6.setTop (mkF m 106 #[.val (.long q0), .second, .val (.long q1), .second, .val (.long q2), .second, .val (.long q3), .second, .val (.int p4), .val (.int p5), .val (.int (2 : Int32)), .val (.ref b1), .val (.ref b2), .val (.long (own_fin (own_st (own_st (0) q0) q1))), .second, .val (.int (1 : Int32)), .val (.int (own_P p5 (2 : Int32))), .unset, .unset, .unset, .unset, .unset] [(.long q1)])) _
      refine XT.lstore X6.here hx rfl (hb hby at_106) rfl (l' := #[.val (.long q0), .second, .val (.long q1), .second, .val (.long q2), .second, .val (.long q3), .second, .val (.int p4), .val (.int p5), .val (.int (2 : Int32)), .val (.ref b1), .val (.ref b2), .val (.long (own_fin (own_st (own_st (0) q0) q1))), .second, .val (.int (1 : Int32)), .val (.int (own_P p5 (2 : Int32))), .val (.long q1), .second, .unset, .unset, .unset]) rfl ?_
      show Steps p.tables e below (T6.setTop (mkF m 108 #[.val (.long q0), .second, .val (.long q1), .second, .val (.long q2), .second, .val (.long q3), .second, .val (.int p4), .val (.int p5), .val (.int (2 : Int32)), .val (.ref b1), .val (.ref b2), .val (.long (own_fin (own_st (own_st (0) q0) q1))), .second, .val (.int (1 : Int32)), .val (.int (own_P p5 (2 : Int32))), .val (.long q1), .second, .unset, .unset, .unset] [])) _
      refine XS.iload X6.here hx rfl (hb hby at_108) rfl ?_
      show Steps p.tables e below (T6.setTop (mkF m 110 #[.val (.long q0), .second, .val (.long q1), .second, .val (.long q2), .second, .val (.long q3), .second, .val (.int p4), .val (.int p5), .val (.int (2 : Int32)), .val (.ref b1), .val (.ref b2), .val (.long (own_fin (own_st (own_st (0) q0) q1))), .second, .val (.int (1 : Int32)), .val (.int (own_P p5 (2 : Int32))), .val (.long q1), .second, .unset, .unset, .unset] [(.int (2 : Int32))])) _
      refine XS.iload X6.here hx rfl (hb hby at_110) rfl ?_
      show Steps p.tables e below (T6.setTop (mkF m 112 #[.val (.long q0), .second, .val (.long q1), .second, .val (.long q2), .second, .val (.long q3), .second, .val (.int p4), .val (.int p5), .val (.int (2 : Int32)), .val (.ref b1), .val (.ref b2), .val (.long (own_fin (own_st (own_st (0) q0) q1))), .second, .val (.int (1 : Int32)), .val (.int (own_P p5 (2 : Int32))), .val (.long q1), .second, .unset, .unset, .unset] [(.int (own_P p5 (2 : Int32))), (.int (2 : Int32))])) _
      refine XS.ifYes X6.here hx rfl (pc0 := 112) (pc' := 120) rfl (hb hby at_112) rfl (XT.i0_ne_t hc87_8) (by decide) (by decide) ?_
      show Steps p.tables e below (T6.setTop (mkF m 120 #[.val (.long q0), .second, .val (.long q1), .second, .val (.long q2), .second, .val (.long q3), .second, .val (.int p4), .val (.int p5), .val (.int (2 : Int32)), .val (.ref b1), .val (.ref b2), .val (.long (own_fin (own_st (own_st (0) q0) q1))), .second, .val (.int (1 : Int32)), .val (.int (own_P p5 (2 : Int32))), .val (.long q1), .second, .unset, .unset, .unset] [(.int (2 : Int32))])) _
      refine XT.lloadN X6.here hx rfl (hb hby at_120) rfl ?_
      show Steps p.tables e below (T6.setTop (mkF m 121 #[.val (.long q0), .second, .val (.long q1), .second, .val (.long q2), .second, .val (.long q3), .second, .val (.int p4), .val (.int p5), .val (.int (2 : Int32)), .val (.ref b1), .val (.ref b2), .val (.long (own_fin (own_st (own_st (0) q0) q1))), .second, .val (.int (1 : Int32)), .val (.int (own_P p5 (2 : Int32))), .val (.long q1), .second, .unset, .unset, .unset] [(.long q0), (.int (2 : Int32))])) _
      refine XS.iload X6.here hx rfl (hb hby at_121) rfl ?_
      show Steps p.tables e below (T6.setTop (mkF m 123 #[.val (.long q0), .second, .val (.long q1), .second, .val (.long q2), .second, .val (.long q3), .second, .val (.int p4), .val (.int p5), .val (.int (2 : Int32)), .val (.ref b1), .val (.ref b2), .val (.long (own_fin (own_st (own_st (0) q0) q1))), .second, .val (.int (1 : Int32)), .val (.int (own_P p5 (2 : Int32))), .val (.long q1), .second, .unset, .unset, .unset] [(.int (own_P p5 (2 : Int32))), (.long q0), (.int (2 : Int32))])) _
      refine XT.iconstV X6.here hx rfl (1 : Int32) (hb hby at_123) (by decide) ?_
      show Steps p.tables e below (T6.setTop (mkF m 124 #[.val (.long q0), .second, .val (.long q1), .second, .val (.long q2), .second, .val (.long q3), .second, .val (.int p4), .val (.int p5), .val (.int (2 : Int32)), .val (.ref b1), .val (.ref b2), .val (.long (own_fin (own_st (own_st (0) q0) q1))), .second, .val (.int (1 : Int32)), .val (.int (own_P p5 (2 : Int32))), .val (.long q1), .second, .unset, .unset, .unset] [(.int (1 : Int32)), (.int (own_P p5 (2 : Int32))), (.long q0), (.int (2 : Int32))])) _
      refine XS.icmpNo X6.here hx rfl (hb hby at_124) rfl (XT.ii_ne_f (own_P2 p5 hc87_8)) ?_
      show Steps p.tables e below (T6.setTop (mkF m 127 #[.val (.long q0), .second, .val (.long q1), .second, .val (.long q2), .second, .val (.long q3), .second, .val (.int p4), .val (.int p5), .val (.int (2 : Int32)), .val (.ref b1), .val (.ref b2), .val (.long (own_fin (own_st (own_st (0) q0) q1))), .second, .val (.int (1 : Int32)), .val (.int (own_P p5 (2 : Int32))), .val (.long q1), .second, .unset, .unset, .unset] [(.long q0), (.int (2 : Int32))])) _
      refine XT.lload X6.here hx rfl (hb hby at_127) rfl ?_
      show Steps p.tables e below (T6.setTop (mkF m 129 #[.val (.long q0), .second, .val (.long q1), .second, .val (.long q2), .second, .val (.long q3), .second, .val (.int p4), .val (.int p5), .val (.int (2 : Int32)), .val (.ref b1), .val (.ref b2), .val (.long (own_fin (own_st (own_st (0) q0) q1))), .second, .val (.int (1 : Int32)), .val (.int (own_P p5 (2 : Int32))), .val (.long q1), .second, .unset, .unset, .unset] [(.long q3), (.long q0), (.int (2 : Int32))])) _
      refine XS.goto X6.here hx rfl (pc0 := 129) (pc' := 133) rfl (hb hby at_129) (by decide) (by decide) ?_
      show Steps p.tables e below (T6.setTop (mkF m 133 #[.val (.long q0), .second, .val (.long q1), .second, .val (.long q2), .second, .val (.long q3), .second, .val (.int p4), .val (.int p5), .val (.int (2 : Int32)), .val (.ref b1), .val (.ref b2), .val (.long (own_fin (own_st (own_st (0) q0) q1))), .second, .val (.int (1 : Int32)), .val (.int (own_P p5 (2 : Int32))), .val (.long q1), .second, .unset, .unset, .unset] [(.long q3), (.long q0), (.int (2 : Int32))])) _
      refine XS.iload X6.here hx rfl (hb hby at_133) rfl ?_
      show Steps p.tables e below (T6.setTop (mkF m 135 #[.val (.long q0), .second, .val (.long q1), .second, .val (.long q2), .second, .val (.long q3), .second, .val (.int p4), .val (.int p5), .val (.int (2 : Int32)), .val (.ref b1), .val (.ref b2), .val (.long (own_fin (own_st (own_st (0) q0) q1))), .second, .val (.int (1 : Int32)), .val (.int (own_P p5 (2 : Int32))), .val (.long q1), .second, .unset, .unset, .unset] [(.int (own_P p5 (2 : Int32))), (.long q3), (.long q0), (.int (2 : Int32))])) _
      refine XT.iconstV X6.here hx rfl (2 : Int32) (hb hby at_135) (by decide) ?_
      show Steps p.tables e below (T6.setTop (mkF m 136 #[.val (.long q0), .second, .val (.long q1), .second, .val (.long q2), .second, .val (.long q3), .second, .val (.int p4), .val (.int p5), .val (.int (2 : Int32)), .val (.ref b1), .val (.ref b2), .val (.long (own_fin (own_st (own_st (0) q0) q1))), .second, .val (.int (1 : Int32)), .val (.int (own_P p5 (2 : Int32))), .val (.long q1), .second, .unset, .unset, .unset] [(.int (2 : Int32)), (.int (own_P p5 (2 : Int32))), (.long q3), (.long q0), (.int (2 : Int32))])) _
      refine XS.icmpYes X6.here hx rfl (pc0 := 136) (pc' := 144) rfl (hb hby at_136) rfl (XT.ii_ne_t (by rw [own_P2 p5 hc87_8]; decide)) (by decide) (by decide) ?_
      show Steps p.tables e below (T6.setTop (mkF m 144 #[.val (.long q0), .second, .val (.long q1), .second, .val (.long q2), .second, .val (.long q3), .second, .val (.int p4), .val (.int p5), .val (.int (2 : Int32)), .val (.ref b1), .val (.ref b2), .val (.long (own_fin (own_st (own_st (0) q0) q1))), .second, .val (.int (1 : Int32)), .val (.int (own_P p5 (2 : Int32))), .val (.long q1), .second, .unset, .unset, .unset] [(.long q3), (.long q0), (.int (2 : Int32))])) _
      refine XT.lload X6.here hx rfl (hb hby at_144) rfl ?_
      show Steps p.tables e below (T6.setTop (mkF m 146 #[.val (.long q0), .second, .val (.long q1), .second, .val (.long q2), .second, .val (.long q3), .second, .val (.int p4), .val (.int p5), .val (.int (2 : Int32)), .val (.ref b1), .val (.ref b2), .val (.long (own_fin (own_st (own_st (0) q0) q1))), .second, .val (.int (1 : Int32)), .val (.int (own_P p5 (2 : Int32))), .val (.long q1), .second, .unset, .unset, .unset] [(.long q2), (.long q3), (.long q0), (.int (2 : Int32))])) _
      refine st15 _ ?_
      show Steps p.tables e below (T15.setTop (mkF m 149 #[.val (.long q0), .second, .val (.long q1), .second, .val (.long q2), .second, .val (.long q3), .second, .val (.int p4), .val (.int p5), .val (.int (2 : Int32)), .val (.ref b1), .val (.ref b2), .val (.long (own_fin (own_st (own_st (0) q0) q1))), .second, .val (.int (1 : Int32)), .val (.int (own_P p5 (2 : Int32))), .val (.long q1), .second, .unset, .unset, .unset] [(.ref b15)])) _
      refine XS.astore X15.here hx rfl (hb hby at_149) rfl rfl (l' := #[.val (.long q0), .second, .val (.long q1), .second, .val (.long q2), .second, .val (.long q3), .second, .val (.int p4), .val (.int p5), .val (.int (2 : Int32)), .val (.ref b1), .val (.ref b2), .val (.long (own_fin (own_st (own_st (0) q0) q1))), .second, .val (.int (1 : Int32)), .val (.int (own_P p5 (2 : Int32))), .val (.long q1), .second, .val (.ref b15), .unset, .unset]) rfl ?_
      show Steps p.tables e below (T15.setTop (mkF m 151 #[.val (.long q0), .second, .val (.long q1), .second, .val (.long q2), .second, .val (.long q3), .second, .val (.int p4), .val (.int p5), .val (.int (2 : Int32)), .val (.ref b1), .val (.ref b2), .val (.long (own_fin (own_st (own_st (0) q0) q1))), .second, .val (.int (1 : Int32)), .val (.int (own_P p5 (2 : Int32))), .val (.long q1), .second, .val (.ref b15), .unset, .unset] [])) _
      refine XS.aload X15.here hx rfl (hb hby at_151) rfl rfl ?_
      show Steps p.tables e below (T15.setTop (mkF m 153 #[.val (.long q0), .second, .val (.long q1), .second, .val (.long q2), .second, .val (.long q3), .second, .val (.int p4), .val (.int p5), .val (.int (2 : Int32)), .val (.ref b1), .val (.ref b2), .val (.long (own_fin (own_st (own_st (0) q0) q1))), .second, .val (.int (1 : Int32)), .val (.int (own_P p5 (2 : Int32))), .val (.long q1), .second, .val (.ref b15), .unset, .unset] [(.ref b15)])) _
      refine st16 _ ?_
      show Steps p.tables e below (T16.setTop (mkF m 156 #[.val (.long q0), .second, .val (.long q1), .second, .val (.long q2), .second, .val (.long q3), .second, .val (.int p4), .val (.int p5), .val (.int (2 : Int32)), .val (.ref b1), .val (.ref b2), .val (.long (own_fin (own_st (own_st (0) q0) q1))), .second, .val (.int (1 : Int32)), .val (.int (own_P p5 (2 : Int32))), .val (.long q1), .second, .val (.ref b15), .unset, .unset] [(.long (own_fin (own_st (own_st (0) q0) q3)))])) _
      refine XT.lstore X16.here hx rfl (hb hby at_156) rfl (l' := #[.val (.long q0), .second, .val (.long q1), .second, .val (.long q2), .second, .val (.long q3), .second, .val (.int p4), .val (.int p5), .val (.int (2 : Int32)), .val (.ref b1), .val (.ref b2), .val (.long (own_fin (own_st (own_st (0) q0) q1))), .second, .val (.int (1 : Int32)), .val (.int (own_P p5 (2 : Int32))), .val (.long q1), .second, .val (.ref b15), .val (.long (own_fin (own_st (own_st (0) q0) q3))), .second]) rfl ?_
      show Steps p.tables e below (T16.setTop (mkF m 158 #[.val (.long q0), .second, .val (.long q1), .second, .val (.long q2), .second, .val (.long q3), .second, .val (.int p4), .val (.int p5), .val (.int (2 : Int32)), .val (.ref b1), .val (.ref b2), .val (.long (own_fin (own_st (own_st (0) q0) q1))), .second, .val (.int (1 : Int32)), .val (.int (own_P p5 (2 : Int32))), .val (.long q1), .second, .val (.ref b15), .val (.long (own_fin (own_st (own_st (0) q0) q3))), .second] [])) _
      refine XS.iload X16.here hx rfl (hb hby at_158) rfl ?_
      show Steps p.tables e below (T16.setTop (mkF m 160 #[.val (.long q0), .second, .val (.long q1), .second, .val (.long q2), .second, .val (.long q3), .second, .val (.int p4), .val (.int p5), .val (.int (2 : Int32)), .val (.ref b1), .val (.ref b2), .val (.long (own_fin (own_st (own_st (0) q0) q1))), .second, .val (.int (1 : Int32)), .val (.int (own_P p5 (2 : Int32))), .val (.long q1), .second, .val (.ref b15), .val (.long (own_fin (own_st (own_st (0) q0) q3))), .second] [(.int (1 : Int32))])) _
      refine XS.ifNo X16.here hx rfl (hb hby at_160) rfl (XT.i0_eq_f (by decide)) ?_
      show Steps p.tables e below (T16.setTop (mkF m 163 #[.val (.long q0), .second, .val (.long q1), .second, .val (.long q2), .second, .val (.long q3), .second, .val (.int p4), .val (.int p5), .val (.int (2 : Int32)), .val (.ref b1), .val (.ref b2), .val (.long (own_fin (own_st (own_st (0) q0) q1))), .second, .val (.int (1 : Int32)), .val (.int (own_P p5 (2 : Int32))), .val (.long q1), .second, .val (.ref b15), .val (.long (own_fin (own_st (own_st (0) q0) q3))), .second] [])) _
      refine XT.lload X16.here hx rfl (hb hby at_163) rfl ?_
      show Steps p.tables e below (T16.setTop (mkF m 165 #[.val (.long q0), .second, .val (.long q1), .second, .val (.long q2), .second, .val (.long q3), .second, .val (.int p4), .val (.int p5), .val (.int (2 : Int32)), .val (.ref b1), .val (.ref b2), .val (.long (own_fin (own_st (own_st (0) q0) q1))), .second, .val (.int (1 : Int32)), .val (.int (own_P p5 (2 : Int32))), .val (.long q1), .second, .val (.ref b15), .val (.long (own_fin (own_st (own_st (0) q0) q3))), .second] [(.long (own_fin (own_st (own_st (0) q0) q1)))])) _
      refine XT.lload X16.here hx rfl (hb hby at_165) rfl ?_
      show Steps p.tables e below (T16.setTop (mkF m 167 #[.val (.long q0), .second, .val (.long q1), .second, .val (.long q2), .second, .val (.long q3), .second, .val (.int p4), .val (.int p5), .val (.int (2 : Int32)), .val (.ref b1), .val (.ref b2), .val (.long (own_fin (own_st (own_st (0) q0) q1))), .second, .val (.int (1 : Int32)), .val (.int (own_P p5 (2 : Int32))), .val (.long q1), .second, .val (.ref b15), .val (.long (own_fin (own_st (own_st (0) q0) q3))), .second] [(.long (own_fin (own_st (own_st (0) q0) q3))), (.long (own_fin (own_st (own_st (0) q0) q1)))])) _
      refine XT.lcmp X16.here hx rfl (hb hby at_167) rfl ?_
      show Steps p.tables e below (T16.setTop (mkF m 168 #[.val (.long q0), .second, .val (.long q1), .second, .val (.long q2), .second, .val (.long q3), .second, .val (.int p4), .val (.int p5), .val (.int (2 : Int32)), .val (.ref b1), .val (.ref b2), .val (.long (own_fin (own_st (own_st (0) q0) q1))), .second, .val (.int (1 : Int32)), .val (.int (own_P p5 (2 : Int32))), .val (.long q1), .second, .val (.ref b15), .val (.long (own_fin (own_st (own_st (0) q0) q3))), .second] [(.int (XT.cmpL (own_fin (own_st (own_st (0) q0) q1)) (own_fin (own_st (own_st (0) q0) q3))))])) _
      exact k)
    by_cases hc168_18 : (own_fin (own_st (own_st (0) q0) q1)) = (own_fin (own_st (own_st (0) q0) q3))
    · have S19 : ∀ t, Steps p.tables e below (T16.setTop (mkF m 197 #[.val (.long q0), .second, .val (.long q1), .second, .val (.long q2), .second, .val (.long q3), .second, .val (.int p4), .val (.int p5), .val (.int (2 : Int32)), .val (.ref b1), .val (.ref b2), .val (.long (own_fin (own_st (own_st (0) q0) q1))), .second, .val (.int (1 : Int32)), .val (.int (own_P p5 (2 : Int32))), .val (.long q1), .second, .val (.ref b15), .val (.long (own_fin (own_st (own_st (0) q0) q3))), .second] [(.int (1 : Int32))])) t → Steps p.tables e below (s₁.setTop (mkF m 0 #[.val (.long q0), .second, .val (.long q1), .second, .val (.long q2), .second, .val (.long q3), .second, .val (.int p4), .val (.int p5), .unset, .unset, .unset, .unset, .unset, .unset, .unset, .unset, .unset, .unset, .unset, .unset] [])) t := fun t k => S17 t (by
        show Steps p.tables e below (T16.setTop (mkF m 168 #[.val (.long q0), .second, .val (.long q1), .second, .val (.long q2), .second, .val (.long q3), .second, .val (.int p4), .val (.int p5), .val (.int (2 : Int32)), .val (.ref b1), .val (.ref b2), .val (.long (own_fin (own_st (own_st (0) q0) q1))), .second, .val (.int (1 : Int32)), .val (.int (own_P p5 (2 : Int32))), .val (.long q1), .second, .val (.ref b15), .val (.long (own_fin (own_st (own_st (0) q0) q3))), .second] [(.int (XT.cmpL (own_fin (own_st (own_st (0) q0) q1)) (own_fin (own_st (own_st (0) q0) q3))))])) _
        refine XS.ifNo X16.here hx rfl (hb hby at_168) rfl (XT.ll_ne_f hc168_18) ?_
        show Steps p.tables e below (T16.setTop (mkF m 171 #[.val (.long q0), .second, .val (.long q1), .second, .val (.long q2), .second, .val (.long q3), .second, .val (.int p4), .val (.int p5), .val (.int (2 : Int32)), .val (.ref b1), .val (.ref b2), .val (.long (own_fin (own_st (own_st (0) q0) q1))), .second, .val (.int (1 : Int32)), .val (.int (own_P p5 (2 : Int32))), .val (.long q1), .second, .val (.ref b15), .val (.long (own_fin (own_st (own_st (0) q0) q3))), .second] [])) _
        refine XT.iconstV X16.here hx rfl (1 : Int32) (hb hby at_171) (by decide) ?_
        show Steps p.tables e below (T16.setTop (mkF m 172 #[.val (.long q0), .second, .val (.long q1), .second, .val (.long q2), .second, .val (.long q3), .second, .val (.int p4), .val (.int p5), .val (.int (2 : Int32)), .val (.ref b1), .val (.ref b2), .val (.long (own_fin (own_st (own_st (0) q0) q1))), .second, .val (.int (1 : Int32)), .val (.int (own_P p5 (2 : Int32))), .val (.long q1), .second, .val (.ref b15), .val (.long (own_fin (own_st (own_st (0) q0) q3))), .second] [(.int (1 : Int32))])) _
        refine XS.goto X16.here hx rfl (pc0 := 172) (pc' := 176) rfl (hb hby at_172) (by decide) (by decide) ?_
        show Steps p.tables e below (T16.setTop (mkF m 176 #[.val (.long q0), .second, .val (.long q1), .second, .val (.long q2), .second, .val (.long q3), .second, .val (.int p4), .val (.int p5), .val (.int (2 : Int32)), .val (.ref b1), .val (.ref b2), .val (.long (own_fin (own_st (own_st (0) q0) q1))), .second, .val (.int (1 : Int32)), .val (.int (own_P p5 (2 : Int32))), .val (.long q1), .second, .val (.ref b15), .val (.long (own_fin (own_st (own_st (0) q0) q3))), .second] [(.int (1 : Int32))])) _
        refine XT.lload X16.here hx rfl (hb hby at_176) rfl ?_
        show Steps p.tables e below (T16.setTop (mkF m 178 #[.val (.long q0), .second, .val (.long q1), .second, .val (.long q2), .second, .val (.long q3), .second, .val (.int p4), .val (.int p5), .val (.int (2 : Int32)), .val (.ref b1), .val (.ref b2), .val (.long (own_fin (own_st (own_st (0) q0) q1))), .second, .val (.int (1 : Int32)), .val (.int (own_P p5 (2 : Int32))), .val (.long q1), .second, .val (.ref b15), .val (.long (own_fin (own_st (own_st (0) q0) q3))), .second] [(.long q1), (.int (1 : Int32))])) _
        refine XT.lload X16.here hx rfl (hb hby at_178) rfl ?_
        show Steps p.tables e below (T16.setTop (mkF m 180 #[.val (.long q0), .second, .val (.long q1), .second, .val (.long q2), .second, .val (.long q3), .second, .val (.int p4), .val (.int p5), .val (.int (2 : Int32)), .val (.ref b1), .val (.ref b2), .val (.long (own_fin (own_st (own_st (0) q0) q1))), .second, .val (.int (1 : Int32)), .val (.int (own_P p5 (2 : Int32))), .val (.long q1), .second, .val (.ref b15), .val (.long (own_fin (own_st (own_st (0) q0) q3))), .second] [(.long q3), (.long q1), (.int (1 : Int32))])) _
        refine XT.lcmp X16.here hx rfl (hb hby at_180) rfl ?_
        show Steps p.tables e below (T16.setTop (mkF m 181 #[.val (.long q0), .second, .val (.long q1), .second, .val (.long q2), .second, .val (.long q3), .second, .val (.int p4), .val (.int p5), .val (.int (2 : Int32)), .val (.ref b1), .val (.ref b2), .val (.long (own_fin (own_st (own_st (0) q0) q1))), .second, .val (.int (1 : Int32)), .val (.int (own_P p5 (2 : Int32))), .val (.long q1), .second, .val (.ref b15), .val (.long (own_fin (own_st (own_st (0) q0) q3))), .second] [(.int (XT.cmpL q1 q3)), (.int (1 : Int32))])) _
        refine XS.ifNo X16.here hx rfl (hb hby at_181) rfl (XT.ll_ne_f (own_inj2_q1 hc168_18)) ?_
        show Steps p.tables e below (T16.setTop (mkF m 184 #[.val (.long q0), .second, .val (.long q1), .second, .val (.long q2), .second, .val (.long q3), .second, .val (.int p4), .val (.int p5), .val (.int (2 : Int32)), .val (.ref b1), .val (.ref b2), .val (.long (own_fin (own_st (own_st (0) q0) q1))), .second, .val (.int (1 : Int32)), .val (.int (own_P p5 (2 : Int32))), .val (.long q1), .second, .val (.ref b15), .val (.long (own_fin (own_st (own_st (0) q0) q3))), .second] [(.int (1 : Int32))])) _
        refine XT.iconstV X16.here hx rfl (1 : Int32) (hb hby at_184) (by decide) ?_
        show Steps p.tables e below (T16.setTop (mkF m 185 #[.val (.long q0), .second, .val (.long q1), .second, .val (.long q2), .second, .val (.long q3), .second, .val (.int p4), .val (.int p5), .val (.int (2 : Int32)), .val (.ref b1), .val (.ref b2), .val (.long (own_fin (own_st (own_st (0) q0) q1))), .second, .val (.int (1 : Int32)), .val (.int (own_P p5 (2 : Int32))), .val (.long q1), .second, .val (.ref b15), .val (.long (own_fin (own_st (own_st (0) q0) q3))), .second] [(.int (1 : Int32)), (.int (1 : Int32))])) _
        refine XS.goto X16.here hx rfl (pc0 := 185) (pc' := 189) rfl (hb hby at_185) (by decide) (by decide) ?_
        show Steps p.tables e below (T16.setTop (mkF m 189 #[.val (.long q0), .second, .val (.long q1), .second, .val (.long q2), .second, .val (.long q3), .second, .val (.int p4), .val (.int p5), .val (.int (2 : Int32)), .val (.ref b1), .val (.ref b2), .val (.long (own_fin (own_st (own_st (0) q0) q1))), .second, .val (.int (1 : Int32)), .val (.int (own_P p5 (2 : Int32))), .val (.long q1), .second, .val (.ref b15), .val (.long (own_fin (own_st (own_st (0) q0) q3))), .second] [(.int (1 : Int32)), (.int (1 : Int32))])) _
        refine XS.icmpNo X16.here hx rfl (hb hby at_189) rfl (XT.ii_ne_f (by decide)) ?_
        show Steps p.tables e below (T16.setTop (mkF m 192 #[.val (.long q0), .second, .val (.long q1), .second, .val (.long q2), .second, .val (.long q3), .second, .val (.int p4), .val (.int p5), .val (.int (2 : Int32)), .val (.ref b1), .val (.ref b2), .val (.long (own_fin (own_st (own_st (0) q0) q1))), .second, .val (.int (1 : Int32)), .val (.int (own_P p5 (2 : Int32))), .val (.long q1), .second, .val (.ref b15), .val (.long (own_fin (own_st (own_st (0) q0) q3))), .second] [])) _
        refine XT.iconstV X16.here hx rfl (1 : Int32) (hb hby at_192) (by decide) ?_
        show Steps p.tables e below (T16.setTop (mkF m 193 #[.val (.long q0), .second, .val (.long q1), .second, .val (.long q2), .second, .val (.long q3), .second, .val (.int p4), .val (.int p5), .val (.int (2 : Int32)), .val (.ref b1), .val (.ref b2), .val (.long (own_fin (own_st (own_st (0) q0) q1))), .second, .val (.int (1 : Int32)), .val (.int (own_P p5 (2 : Int32))), .val (.long q1), .second, .val (.ref b15), .val (.long (own_fin (own_st (own_st (0) q0) q3))), .second] [(.int (1 : Int32))])) _
        refine XS.goto X16.here hx rfl (pc0 := 193) (pc' := 197) rfl (hb hby at_193) (by decide) (by decide) ?_
        show Steps p.tables e below (T16.setTop (mkF m 197 #[.val (.long q0), .second, .val (.long q1), .second, .val (.long q2), .second, .val (.long q3), .second, .val (.int p4), .val (.int p5), .val (.int (2 : Int32)), .val (.ref b1), .val (.ref b2), .val (.long (own_fin (own_st (own_st (0) q0) q1))), .second, .val (.int (1 : Int32)), .val (.int (own_P p5 (2 : Int32))), .val (.long q1), .second, .val (.ref b15), .val (.long (own_fin (own_st (own_st (0) q0) q3))), .second] [(.int (1 : Int32))])) _
        exact k)
      obtain ⟨fs, hr, hrun, hended, hW, hsame⟩ := X16.leave (v := some (.int (1 : Int32))) (fun h => by rw [Bd.returns] at h; cases h)
      refine ⟨_, _, pre0 _ (S19 _ ?_), hrun, hended, _, _, rfl, ?_, ⟨_, rfl⟩, hW, hsame.mono (by decide) (by decide)⟩
      · exact retN X16 hx (t := .boolean) Bd.returns (by simp) (hb hby at_197) hr
      · show Qrm0 Z q0 q1 q2 q3 p4 p5 h0 n0 _ T16.heap _
        rw [e16]
        exact ⟨rfl, N16⟩
    · have S20 : ∀ t, Steps p.tables e below (T16.setTop (mkF m 197 #[.val (.long q0), .second, .val (.long q1), .second, .val (.long q2), .second, .val (.long q3), .second, .val (.int p4), .val (.int p5), .val (.int (2 : Int32)), .val (.ref b1), .val (.ref b2), .val (.long (own_fin (own_st (own_st (0) q0) q1))), .second, .val (.int (1 : Int32)), .val (.int (own_P p5 (2 : Int32))), .val (.long q1), .second, .val (.ref b15), .val (.long (own_fin (own_st (own_st (0) q0) q3))), .second] [(.int (1 : Int32))])) t → Steps p.tables e below (s₁.setTop (mkF m 0 #[.val (.long q0), .second, .val (.long q1), .second, .val (.long q2), .second, .val (.long q3), .second, .val (.int p4), .val (.int p5), .unset, .unset, .unset, .unset, .unset, .unset, .unset, .unset, .unset, .unset, .unset, .unset] [])) t := fun t k => S17 t (by
        show Steps p.tables e below (T16.setTop (mkF m 168 #[.val (.long q0), .second, .val (.long q1), .second, .val (.long q2), .second, .val (.long q3), .second, .val (.int p4), .val (.int p5), .val (.int (2 : Int32)), .val (.ref b1), .val (.ref b2), .val (.long (own_fin (own_st (own_st (0) q0) q1))), .second, .val (.int (1 : Int32)), .val (.int (own_P p5 (2 : Int32))), .val (.long q1), .second, .val (.ref b15), .val (.long (own_fin (own_st (own_st (0) q0) q3))), .second] [(.int (XT.cmpL (own_fin (own_st (own_st (0) q0) q1)) (own_fin (own_st (own_st (0) q0) q3))))])) _
        refine XS.ifYes X16.here hx rfl (pc0 := 168) (pc' := 175) rfl (hb hby at_168) rfl (XT.ll_ne_t hc168_18) (by decide) (by decide) ?_
        show Steps p.tables e below (T16.setTop (mkF m 175 #[.val (.long q0), .second, .val (.long q1), .second, .val (.long q2), .second, .val (.long q3), .second, .val (.int p4), .val (.int p5), .val (.int (2 : Int32)), .val (.ref b1), .val (.ref b2), .val (.long (own_fin (own_st (own_st (0) q0) q1))), .second, .val (.int (1 : Int32)), .val (.int (own_P p5 (2 : Int32))), .val (.long q1), .second, .val (.ref b15), .val (.long (own_fin (own_st (own_st (0) q0) q3))), .second] [])) _
        refine XT.iconstV X16.here hx rfl (0 : Int32) (hb hby at_175) (by decide) ?_
        show Steps p.tables e below (T16.setTop (mkF m 176 #[.val (.long q0), .second, .val (.long q1), .second, .val (.long q2), .second, .val (.long q3), .second, .val (.int p4), .val (.int p5), .val (.int (2 : Int32)), .val (.ref b1), .val (.ref b2), .val (.long (own_fin (own_st (own_st (0) q0) q1))), .second, .val (.int (1 : Int32)), .val (.int (own_P p5 (2 : Int32))), .val (.long q1), .second, .val (.ref b15), .val (.long (own_fin (own_st (own_st (0) q0) q3))), .second] [(.int (0 : Int32))])) _
        refine XT.lload X16.here hx rfl (hb hby at_176) rfl ?_
        show Steps p.tables e below (T16.setTop (mkF m 178 #[.val (.long q0), .second, .val (.long q1), .second, .val (.long q2), .second, .val (.long q3), .second, .val (.int p4), .val (.int p5), .val (.int (2 : Int32)), .val (.ref b1), .val (.ref b2), .val (.long (own_fin (own_st (own_st (0) q0) q1))), .second, .val (.int (1 : Int32)), .val (.int (own_P p5 (2 : Int32))), .val (.long q1), .second, .val (.ref b15), .val (.long (own_fin (own_st (own_st (0) q0) q3))), .second] [(.long q1), (.int (0 : Int32))])) _
        refine XT.lload X16.here hx rfl (hb hby at_178) rfl ?_
        show Steps p.tables e below (T16.setTop (mkF m 180 #[.val (.long q0), .second, .val (.long q1), .second, .val (.long q2), .second, .val (.long q3), .second, .val (.int p4), .val (.int p5), .val (.int (2 : Int32)), .val (.ref b1), .val (.ref b2), .val (.long (own_fin (own_st (own_st (0) q0) q1))), .second, .val (.int (1 : Int32)), .val (.int (own_P p5 (2 : Int32))), .val (.long q1), .second, .val (.ref b15), .val (.long (own_fin (own_st (own_st (0) q0) q3))), .second] [(.long q3), (.long q1), (.int (0 : Int32))])) _
        refine XT.lcmp X16.here hx rfl (hb hby at_180) rfl ?_
        show Steps p.tables e below (T16.setTop (mkF m 181 #[.val (.long q0), .second, .val (.long q1), .second, .val (.long q2), .second, .val (.long q3), .second, .val (.int p4), .val (.int p5), .val (.int (2 : Int32)), .val (.ref b1), .val (.ref b2), .val (.long (own_fin (own_st (own_st (0) q0) q1))), .second, .val (.int (1 : Int32)), .val (.int (own_P p5 (2 : Int32))), .val (.long q1), .second, .val (.ref b15), .val (.long (own_fin (own_st (own_st (0) q0) q3))), .second] [(.int (XT.cmpL q1 q3)), (.int (0 : Int32))])) _
        refine XS.ifYes X16.here hx rfl (pc0 := 181) (pc' := 188) rfl (hb hby at_181) rfl (XT.ll_ne_t (fun q => hc168_18 (by rw [q]))) (by decide) (by decide) ?_
        show Steps p.tables e below (T16.setTop (mkF m 188 #[.val (.long q0), .second, .val (.long q1), .second, .val (.long q2), .second, .val (.long q3), .second, .val (.int p4), .val (.int p5), .val (.int (2 : Int32)), .val (.ref b1), .val (.ref b2), .val (.long (own_fin (own_st (own_st (0) q0) q1))), .second, .val (.int (1 : Int32)), .val (.int (own_P p5 (2 : Int32))), .val (.long q1), .second, .val (.ref b15), .val (.long (own_fin (own_st (own_st (0) q0) q3))), .second] [(.int (0 : Int32))])) _
        refine XT.iconstV X16.here hx rfl (0 : Int32) (hb hby at_188) (by decide) ?_
        show Steps p.tables e below (T16.setTop (mkF m 189 #[.val (.long q0), .second, .val (.long q1), .second, .val (.long q2), .second, .val (.long q3), .second, .val (.int p4), .val (.int p5), .val (.int (2 : Int32)), .val (.ref b1), .val (.ref b2), .val (.long (own_fin (own_st (own_st (0) q0) q1))), .second, .val (.int (1 : Int32)), .val (.int (own_P p5 (2 : Int32))), .val (.long q1), .second, .val (.ref b15), .val (.long (own_fin (own_st (own_st (0) q0) q3))), .second] [(.int (0 : Int32)), (.int (0 : Int32))])) _
        refine XS.icmpNo X16.here hx rfl (hb hby at_189) rfl (XT.ii_ne_f (by decide)) ?_
        show Steps p.tables e below (T16.setTop (mkF m 192 #[.val (.long q0), .second, .val (.long q1), .second, .val (.long q2), .second, .val (.long q3), .second, .val (.int p4), .val (.int p5), .val (.int (2 : Int32)), .val (.ref b1), .val (.ref b2), .val (.long (own_fin (own_st (own_st (0) q0) q1))), .second, .val (.int (1 : Int32)), .val (.int (own_P p5 (2 : Int32))), .val (.long q1), .second, .val (.ref b15), .val (.long (own_fin (own_st (own_st (0) q0) q3))), .second] [])) _
        refine XT.iconstV X16.here hx rfl (1 : Int32) (hb hby at_192) (by decide) ?_
        show Steps p.tables e below (T16.setTop (mkF m 193 #[.val (.long q0), .second, .val (.long q1), .second, .val (.long q2), .second, .val (.long q3), .second, .val (.int p4), .val (.int p5), .val (.int (2 : Int32)), .val (.ref b1), .val (.ref b2), .val (.long (own_fin (own_st (own_st (0) q0) q1))), .second, .val (.int (1 : Int32)), .val (.int (own_P p5 (2 : Int32))), .val (.long q1), .second, .val (.ref b15), .val (.long (own_fin (own_st (own_st (0) q0) q3))), .second] [(.int (1 : Int32))])) _
        refine XS.goto X16.here hx rfl (pc0 := 193) (pc' := 197) rfl (hb hby at_193) (by decide) (by decide) ?_
        show Steps p.tables e below (T16.setTop (mkF m 197 #[.val (.long q0), .second, .val (.long q1), .second, .val (.long q2), .second, .val (.long q3), .second, .val (.int p4), .val (.int p5), .val (.int (2 : Int32)), .val (.ref b1), .val (.ref b2), .val (.long (own_fin (own_st (own_st (0) q0) q1))), .second, .val (.int (1 : Int32)), .val (.int (own_P p5 (2 : Int32))), .val (.long q1), .second, .val (.ref b15), .val (.long (own_fin (own_st (own_st (0) q0) q3))), .second] [(.int (1 : Int32))])) _
        exact k)
      obtain ⟨fs, hr, hrun, hended, hW, hsame⟩ := X16.leave (v := some (.int (1 : Int32))) (fun h => by rw [Bd.returns] at h; cases h)
      refine ⟨_, _, pre0 _ (S20 _ ?_), hrun, hended, _, _, rfl, ?_, ⟨_, rfl⟩, hW, hsame.mono (by decide) (by decide)⟩
      · exact retN X16 hx (t := .boolean) Bd.returns (by simp) (hb hby at_197) hr
      · show Qrm0 Z q0 q1 q2 q3 p4 p5 h0 n0 _ T16.heap _
        rw [e16]
        exact ⟨rfl, N16⟩
set_option maxRecDepth 65536 in
set_option maxHeartbeats 40000000 in
theorem rm0_3 (l : Launch) (Z : State) (av0 : Array Value) (hw : ∀ d ∈ tables_1, d.before av0 Z = true) (ws : List Jvm.Cond) (q0 : Int64) (q1 : Int64) (q2 : Int64) (q3 : Int64) (p4 : Int32) (p5 : Int32) (h0 : Heap) (n0 : Nat) (Z0 : n0 ≤ h0.size) (hn : p4 &&& (3 : Int32) = (3 : Int32)) :
    MetFree l x (head1 (Jvm.Cond.code x code maxLocals ret :: ws) room_1) (fun aU U => aU = #[(.long q0), (.long q1), (.long q2), (.long q3), (.int p4), (.int p5)] ∧ Z.Warmed39 U.vm ∧ U.heap = h0) (fun _ _ _ _ _ => True) (fun _ U oU U' => ∃ vU LU, oU = .returned vU ∧ Qrm0 Z q0 q1 q2 q3 p4 p5 h0 n0 vU U'.heap LU ∧ FrameEnd U oU U' LU room_1.cells room_1.slots) := by
  refine MetFree.of_bodySF (plainFor_of_name pn_StateSpaceHashPinLaw) hisR ?_
  intro p e s m args below meth c s₁ Bd hml0 hP hK
  obtain ⟨rfl, hZ, hh⟩ := hP
  have hx := Bd.exec
  have hby := Bd.bytes
  have hml : c.maxLocals = 22 := hml0
  have hown : s.vm.findClass "com/example/bare_refinement/barerefinement/exploration/StateSpaceHashPinLaw" = some m.cls := findClass_of_methodNamed Bd.named
  have hnm := (name_of_methodNamed Bd.named Bd.method).1
  have X0 : Stand p l e room_1 s m #[(.long q0), (.long q1), (.long q2), (.long q3), (.int p4), (.int p5)] below meth c s₁ [] 0 0 := Stand.of_body Bd
  have e0 : s₁.heap = h0 := by rw [← hh, Bd.state]; rfl
  have N0 := Fr.nil n0
  have pre0 : ∀ t, Steps p.tables e below (s₁.setTop (mkF m 0 #[.val (.long q0), .second, .val (.long q1), .second, .val (.long q2), .second, .val (.long q3), .second, .val (.int p4), .val (.int p5), .unset, .unset, .unset, .unset, .unset, .unset, .unset, .unset, .unset, .unset, .unset, .unset] [])) t → Steps p.tables e below (s₁.setTop (entryFrame m #[(.long q0), (.long q1), (.long q2), (.long q3), (.int p4), (.int p5)] maxLocals)) t := fun t k => castTop (by first | (simp [entryFrame, mkF, argsToLocals, Value.category, maxLocals]; done) | rfl) k
  obtain ⟨_, _, ⟨T1, L1, k1, n1⟩, -, X1, ⟨Lc1, hQ1, l1, y1, z1⟩, st1⟩ := Jvm.LawKit.callS X0 hx (y := (⟨"com/example/bare_refinement/barerefinement/exploration/StateSpaceHashPinLaw", "make", "(IJJJ)[J"⟩ : MethodName)) hown (mvT hZ (hw _ (List.mem_of_getElem? (i := 0) rfl))) (mvT hZ (hw _ (List.mem_of_getElem? (i := 1) rfl))) (mvT hZ (hw _ (List.mem_of_getElem? (i := 2) rfl))) (mvT hZ (hw _ (List.mem_of_getElem? (i := 3) rfl))) (by decide) (backOf (W := 0) (rmMake3 l Z av0 hw [] q0 q1 q2 h0 n0 Z0) hZ (hw _ (List.mem_of_getElem? (i := 3) rfl)) (hw _ (List.mem_of_getElem? (i := 2) rfl)) (by decide) (by decide)) (g := (mkF m 12 #[.val (.long q0), .second, .val (.long q1), .second, .val (.long q2), .second, .val (.long q3), .second, .val (.int p4), .val (.int p5), .val (.int (3 : Int32)), .unset, .unset, .unset, .unset, .unset, .unset, .unset, .unset, .unset, .unset, .unset] [(.long q2), (.long q1), (.long q0), (.int (3 : Int32))])) rfl (by rw [hml]; rfl) (argsL := [(.int (3 : Int32)), (.long q0), (.long q1), (.long q2)]) (rest := []) (lenOf pd__IJJJ_J rfl) rfl (by show 2 * 0 + _ ≤ _; exact Nat.le_of_eq rfl) (hb hby at_12) (fun _ _ => ⟨rfl, e0, (by decide : 0 + 1 ≤ _), (by decide : 0 + 3 ≤ _)⟩)
  dsimp only [Pt.U, Pt.locs, Pt.cells, Pt.slots] at X1 l1 y1 z1 st1 hQ1
  subst l1 y1 z1
  obtain ⟨b1, k1', rfl, N1q, ge1, K1, V1⟩ := hQ1
  have N1 := Fr.app N0 N1q
  have e1 : T1.heap = T1.heap := rfl
  have Z1 : n0 ≤ T1.heap.size := Nat.le_trans Z0 K1.1
  obtain ⟨_, _, ⟨T2, L2, k2, n2⟩, -, X2, ⟨Lc2, hQ2, l2, y2, z2⟩, st2⟩ := Jvm.LawKit.callS X1 hx (y := (⟨"com/example/bare_refinement/barerefinement/exploration/StateSpaceHashPinLaw", "make", "(IJJJ)[J"⟩ : MethodName)) hown (mvT hZ (hw _ (List.mem_of_getElem? (i := 0) rfl))) (mvT hZ (hw _ (List.mem_of_getElem? (i := 1) rfl))) (mvT hZ (hw _ (List.mem_of_getElem? (i := 2) rfl))) (mvT hZ (hw _ (List.mem_of_getElem? (i := 3) rfl))) (by decide) (backOf (W := 0) (rmMake3 l Z av0 hw [] q0 q1 q2 T1.heap n0 Z1) hZ (hw _ (List.mem_of_getElem? (i := 3) rfl)) (hw _ (List.mem_of_getElem? (i := 2) rfl)) (by decide) (by decide)) (g := (mkF m 23 #[.val (.long q0), .second, .val (.long q1), .second, .val (.long q2), .second, .val (.long q3), .second, .val (.int p4), .val (.int p5), .val (.int (3 : Int32)), .val (.ref b1), .unset, .unset, .unset, .unset, .unset, .unset, .unset, .unset, .unset, .unset] [(.long q2), (.long q1), (.long q0), (.int (3 : Int32))])) rfl (by rw [hml]; rfl) (argsL := [(.int (3 : Int32)), (.long q0), (.long q1), (.long q2)]) (rest := []) (lenOf pd__IJJJ_J rfl) rfl (by show 2 * 0 + _ ≤ _; exact Nat.le_of_eq rfl) (hb hby at_23) (fun _ _ => ⟨rfl, e1, (by decide : 1 + 1 ≤ _), (by decide : 3 + 3 ≤ _)⟩)
  dsimp only [Pt.U, Pt.locs, Pt.cells, Pt.slots] at X2 l2 y2 z2 st2 hQ2
  subst l2 y2 z2
  obtain ⟨b2, k2', rfl, N2q, ge2, K2, V2⟩ := hQ2
  have N2 := Fr.app N1 N2q
  have e2 : T2.heap = T2.heap := rfl
  have ne_b1_b2 : b1 ≠ b2 := Nat.ne_of_lt (Nat.lt_of_lt_of_le V1.lt ge2)
  have Z2 : n0 ≤ T2.heap.size := Nat.le_trans Z1 K2.1
  have f3 := (V1.keep K2 nin0)
  obtain ⟨_, _, ⟨T4, L4, k4, n4⟩, -, X4, ⟨Lc4, hQ4, l4, y4, z4⟩, st4⟩ := Jvm.LawKit.callS X2 hx (y := (⟨"com/example/bare_refinement/barerefinement/exploration/StateSpace", "hash", "([J)J"⟩ : MethodName)) hown (mvT hZ (hw _ (List.mem_of_getElem? (i := 5) rfl))) (mvT hZ (hw _ (List.mem_of_getElem? (i := 6) rfl))) (mvT hZ (hw _ (List.mem_of_getElem? (i := 7) rfl))) (mvT hZ (hw _ (List.mem_of_getElem? (i := 8) rfl))) (by decide) (backOf (W := 0) (rmHash3 l Z av0 hw [] b1 k1' q0 q1 q2 T2.heap n0 Z2 f3) hZ (hw _ (List.mem_of_getElem? (i := 8) rfl)) (hw _ (List.mem_of_getElem? (i := 7) rfl)) (by decide) (by decide)) (g := (mkF m 30 #[.val (.long q0), .second, .val (.long q1), .second, .val (.long q2), .second, .val (.long q3), .second, .val (.int p4), .val (.int p5), .val (.int (3 : Int32)), .val (.ref b1), .val (.ref b2), .unset, .unset, .unset, .unset, .unset, .unset, .unset, .unset, .unset] [(.ref b1)])) rfl (by rw [hml]; rfl) (argsL := [(.ref b1)]) (rest := []) (lenOf pd__J_J rfl) rfl (by show 2 * 0 + _ ≤ _; exact Nat.le_of_eq rfl) (hb hby at_30) (fun _ _ => ⟨rfl, e2, (by decide : 2 + 0 ≤ _), (by decide : 6 + 0 ≤ _)⟩)
  dsimp only [Pt.U, Pt.locs, Pt.cells, Pt.slots] at X4 l4 y4 z4 st4 hQ4
  subst l4 y4 z4
  obtain ⟨rfl, N4q, hh4⟩ := hQ4
  have N4 := Fr.app N2 N4q
  have e4 : T4.heap = T2.heap := hh4
  obtain ⟨_, _, ⟨T5, L5, k5, n5⟩, -, X5, ⟨Lc5, hQ5, l5, y5, z5⟩, st5⟩ := Jvm.LawKit.callS X4 hx (y := (⟨"com/example/bare_refinement/barerefinement/exploration/StateSpace", "hash", "([J)J"⟩ : MethodName)) hown (mvT hZ (hw _ (List.mem_of_getElem? (i := 5) rfl))) (mvT hZ (hw _ (List.mem_of_getElem? (i := 6) rfl))) (mvT hZ (hw _ (List.mem_of_getElem? (i := 7) rfl))) (mvT hZ (hw _ (List.mem_of_getElem? (i := 8) rfl))) (by decide) (backOf (W := 2) (rmHash3 l Z av0 hw [] b2 k2' q0 q1 q2 T2.heap n0 Z2 V2) hZ (hw _ (List.mem_of_getElem? (i := 8) rfl)) (hw _ (List.mem_of_getElem? (i := 7) rfl)) (by decide) (by decide)) (g := (mkF m 39 #[.val (.long q0), .second, .val (.long q1), .second, .val (.long q2), .second, .val (.long q3), .second, .val (.int p4), .val (.int p5), .val (.int (3 : Int32)), .val (.ref b1), .val (.ref b2), .val (.long (own_fin (own_st (own_st (own_st (0) q0) q1) q2))), .second, .unset, .unset, .unset, .unset, .unset, .unset, .unset] [(.ref b2), (.long (own_fin (own_st (own_st (own_st (0) q0) q1) q2)))])) rfl (by rw [hml]; rfl) (argsL := [(.ref b2)]) (rest := [(.long (own_fin (own_st (own_st (own_st (0) q0) q1) q2)))]) (lenOf pd__J_J rfl) rfl (by show 2 * 0 + _ ≤ _; exact Nat.le_of_eq rfl) (hb hby at_39) (fun _ _ => ⟨rfl, e4, (by decide : 2 + 0 ≤ _), (by decide : 6 + 0 ≤ _)⟩)
  dsimp only [Pt.U, Pt.locs, Pt.cells, Pt.slots] at X5 l5 y5 z5 st5 hQ5
  subst l5 y5 z5
  obtain ⟨rfl, N5q, hh5⟩ := hQ5
  have N5 := Fr.app N4 N5q
  have e5 : T5.heap = T2.heap := hh5
  obtain ⟨_, _, ⟨T6, L6, k6, n6⟩, -, X6, ⟨Lc6, hQ6, l6, y6, z6⟩, st6⟩ := Jvm.LawKit.callS X5 hx (y := (⟨"com/example/bare_refinement/barerefinement/exploration/StateSpaceHashPinLaw", "unchanged", "([JIJJJ)Z"⟩ : MethodName)) hown (mvT hZ (hw _ (List.mem_of_getElem? (i := 11) rfl))) (mvT hZ (hw _ (List.mem_of_getElem? (i := 12) rfl))) (mvT hZ (hw _ (List.mem_of_getElem? (i := 2) rfl))) (mvT hZ (hw _ (List.mem_of_getElem? (i := 13) rfl))) (by decide) (backOf (W := 0) (rmUn3 l Z av0 hw [] b1 k1' q0 q1 q2 T2.heap n0 Z2 f3) hZ (hw _ (List.mem_of_getElem? (i := 13) rfl)) (hw _ (List.mem_of_getElem? (i := 2) rfl)) (by decide) (by decide)) (g := (mkF m 54 #[.val (.long q0), .second, .val (.long q1), .second, .val (.long q2), .second, .val (.long q3), .second, .val (.int p4), .val (.int p5), .val (.int (3 : Int32)), .val (.ref b1), .val (.ref b2), .val (.long (own_fin (own_st (own_st (own_st (0) q0) q1) q2))), .second, .unset, .unset, .unset, .unset, .unset, .unset, .unset] [(.long q2), (.long q1), (.long q0), (.int (3 : Int32)), (.ref b1)])) rfl (by rw [hml]; rfl) (argsL := [(.ref b1), (.int (3 : Int32)), (.long q0), (.long q1), (.long q2)]) (rest := []) (lenOf pd__JIJJJ_Z rfl) rfl (by show 2 * 0 + _ ≤ _; exact Nat.le_of_eq rfl) (hb hby at_54) (fun _ _ => ⟨rfl, e5, (by decide : 2 + 0 ≤ _), (by decide : 6 + 0 ≤ _)⟩)
  dsimp only [Pt.U, Pt.locs, Pt.cells, Pt.slots] at X6 l6 y6 z6 st6 hQ6
  subst l6 y6 z6
  obtain ⟨rfl, N6q, hh6⟩ := hQ6
  have N6 := Fr.app N5 N6q
  have e6 : T6.heap = T2.heap := hh6
  have S7 : ∀ t, Steps p.tables e below (T6.setTop (mkF m 87 #[.val (.long q0), .second, .val (.long q1), .second, .val (.long q2), .second, .val (.long q3), .second, .val (.int p4), .val (.int p5), .val (.int (3 : Int32)), .val (.ref b1), .val (.ref b2), .val (.long (own_fin (own_st (own_st (own_st (0) q0) q1) q2))), .second, .val (.int (1 : Int32)), .val (.int (own_P p5 (3 : Int32))), .unset, .unset, .unset, .unset, .unset] [(.int (own_P p5 (3 : Int32)))])) t → Steps p.tables e below (s₁.setTop (mkF m 0 #[.val (.long q0), .second, .val (.long q1), .second, .val (.long q2), .second, .val (.long q3), .second, .val (.int p4), .val (.int p5), .unset, .unset, .unset, .unset, .unset, .unset, .unset, .unset, .unset, .unset, .unset, .unset] [])) t := fun t k => id (by
    show Steps p.tables e below (s₁.setTop (mkF m 0 #[.val (.long q0), .second, .val (.long q1), .second, .val (.long q2), .second, .val (.long q3), .second, .val (.int p4), .val (.int p5), .unset, .unset, .unset, .unset, .unset, .unset, .unset, .unset, .unset, .unset, .unset, .unset] [])) _
    refine XS.iload X0.here hx rfl (hb hby at_0) rfl ?_
    show Steps p.tables e below (s₁.setTop (mkF m 2 #[.val (.long q0), .second, .val (.long q1), .second, .val (.long q2), .second, .val (.long q3), .second, .val (.int p4), .val (.int p5), .unset, .unset, .unset, .unset, .unset, .unset, .unset, .unset, .unset, .unset, .unset, .unset] [(.int p4)])) _
    refine XT.iconstV X0.here hx rfl (3 : Int32) (hb hby at_2) (by decide) ?_
    show Steps p.tables e below (s₁.setTop (mkF m 3 #[.val (.long q0), .second, .val (.long q1), .second, .val (.long q2), .second, .val (.long q3), .second, .val (.int p4), .val (.int p5), .unset, .unset, .unset, .unset, .unset, .unset, .unset, .unset, .unset, .unset, .unset, .unset] [(.int (3 : Int32)), (.int p4)])) _
    refine XS.iand X0.here hx rfl (hb hby at_3) rfl ?_
    show Steps p.tables e below (s₁.setTop (mkF m 4 #[.val (.long q0), .second, .val (.long q1), .second, .val (.long q2), .second, .val (.long q3), .second, .val (.int p4), .val (.int p5), .unset, .unset, .unset, .unset, .unset, .unset, .unset, .unset, .unset, .unset, .unset, .unset] [(.int (p4 &&& (3 : Int32)))])) _
    rw [hn]
    show Steps p.tables e below (s₁.setTop (mkF m 4 #[.val (.long q0), .second, .val (.long q1), .second, .val (.long q2), .second, .val (.long q3), .second, .val (.int p4), .val (.int p5), .unset, .unset, .unset, .unset, .unset, .unset, .unset, .unset, .unset, .unset, .unset, .unset] [(.int (3 : Int32))])) _
    refine XS.istore X0.here hx rfl (hb hby at_4) rfl (l' := #[.val (.long q0), .second, .val (.long q1), .second, .val (.long q2), .second, .val (.long q3), .second, .val (.int p4), .val (.int p5), .val (.int (3 : Int32)), .unset, .unset, .unset, .unset, .unset, .unset, .unset, .unset, .unset, .unset, .unset]) rfl ?_
    show Steps p.tables e below (s₁.setTop (mkF m 6 #[.val (.long q0), .second, .val (.long q1), .second, .val (.long q2), .second, .val (.long q3), .second, .val (.int p4), .val (.int p5), .val (.int (3 : Int32)), .unset, .unset, .unset, .unset, .unset, .unset, .unset, .unset, .unset, .unset, .unset] [])) _
    refine XS.iload X0.here hx rfl (hb hby at_6) rfl ?_
    show Steps p.tables e below (s₁.setTop (mkF m 8 #[.val (.long q0), .second, .val (.long q1), .second, .val (.long q2), .second, .val (.long q3), .second, .val (.int p4), .val (.int p5), .val (.int (3 : Int32)), .unset, .unset, .unset, .unset, .unset, .unset, .unset, .unset, .unset, .unset, .unset] [(.int (3 : Int32))])) _
    refine XT.lloadN X0.here hx rfl (hb hby at_8) rfl ?_
    show Steps p.tables e below (s₁.setTop (mkF m 9 #[.val (.long q0), .second, .val (.long q1), .second, .val (.long q2), .second, .val (.long q3), .second, .val (.int p4), .val (.int p5), .val (.int (3 : Int32)), .unset, .unset, .unset, .unset, .unset, .unset, .unset, .unset, .unset, .unset, .unset] [(.long q0), (.int (3 : Int32))])) _
    refine XT.lloadN X0.here hx rfl (hb hby at_9) rfl ?_
    show Steps p.tables e below (s₁.setTop (mkF m 10 #[.val (.long q0), .second, .val (.long q1), .second, .val (.long q2), .second, .val (.long q3), .second, .val (.int p4), .val (.int p5), .val (.int (3 : Int32)), .unset, .unset, .unset, .unset, .unset, .unset, .unset, .unset, .unset, .unset, .unset] [(.long q1), (.long q0), (.int (3 : Int32))])) _
    refine XT.lload X0.here hx rfl (hb hby at_10) rfl ?_
    show Steps p.tables e below (s₁.setTop (mkF m 12 #[.val (.long q0), .second, .val (.long q1), .second, .val (.long q2), .second, .val (.long q3), .second, .val (.int p4), .val (.int p5), .val (.int (3 : Int32)), .unset, .unset, .unset, .unset, .unset, .unset, .unset, .unset, .unset, .unset, .unset] [(.long q2), (.long q1), (.long q0), (.int (3 : Int32))])) _
    refine st1 _ ?_
    show Steps p.tables e below (T1.setTop (mkF m 15 #[.val (.long q0), .second, .val (.long q1), .second, .val (.long q2), .second, .val (.long q3), .second, .val (.int p4), .val (.int p5), .val (.int (3 : Int32)), .unset, .unset, .unset, .unset, .unset, .unset, .unset, .unset, .unset, .unset, .unset] [(.ref b1)])) _
    refine XS.astore X1.here hx rfl (hb hby at_15) rfl rfl (l' := #[.val (.long q0), .second, .val (.long q1), .second, .val (.long q2), .second, .val (.long q3), .second, .val (.int p4), .val (.int p5), .val (.int (3 : Int32)), .val (.ref b1), .unset, .unset, .unset, .unset, .unset, .unset, .unset, .unset, .unset, .unset]) rfl ?_
    show Steps p.tables e below (T1.setTop (mkF m 17 #[.val (.long q0), .second, .val (.long q1), .second, .val (.long q2), .second, .val (.long q3), .second, .val (.int p4), .val (.int p5), .val (.int (3 : Int32)), .val (.ref b1), .unset, .unset, .unset, .unset, .unset, .unset, .unset, .unset, .unset, .unset] [])) _
    refine XS.iload X1.here hx rfl (hb hby at_17) rfl ?_
    show Steps p.tables e below (T1.setTop (mkF m 19 #[.val (.long q0), .second, .val (.long q1), .second, .val (.long q2), .second, .val (.long q3), .second, .val (.int p4), .val (.int p5), .val (.int (3 : Int32)), .val (.ref b1), .unset, .unset, .unset, .unset, .unset, .unset, .unset, .unset, .unset, .unset] [(.int (3 : Int32))])) _
    refine XT.lloadN X1.here hx rfl (hb hby at_19) rfl ?_
    show Steps p.tables e below (T1.setTop (mkF m 20 #[.val (.long q0), .second, .val (.long q1), .second, .val (.long q2), .second, .val (.long q3), .second, .val (.int p4), .val (.int p5), .val (.int (3 : Int32)), .val (.ref b1), .unset, .unset, .unset, .unset, .unset, .unset, .unset, .unset, .unset, .unset] [(.long q0), (.int (3 : Int32))])) _
    refine XT.lloadN X1.here hx rfl (hb hby at_20) rfl ?_
    show Steps p.tables e below (T1.setTop (mkF m 21 #[.val (.long q0), .second, .val (.long q1), .second, .val (.long q2), .second, .val (.long q3), .second, .val (.int p4), .val (.int p5), .val (.int (3 : Int32)), .val (.ref b1), .unset, .unset, .unset, .unset, .unset, .unset, .unset, .unset, .unset, .unset] [(.long q1), (.long q0), (.int (3 : Int32))])) _
    refine XT.lload X1.here hx rfl (hb hby at_21) rfl ?_
    show Steps p.tables e below (T1.setTop (mkF m 23 #[.val (.long q0), .second, .val (.long q1), .second, .val (.long q2), .second, .val (.long q3), .second, .val (.int p4), .val (.int p5), .val (.int (3 : Int32)), .val (.ref b1), .unset, .unset, .unset, .unset, .unset, .unset, .unset, .unset, .unset, .unset] [(.long q2), (.long q1), (.long q0), (.int (3 : Int32))])) _
    refine st2 _ ?_
    show Steps p.tables e below (T2.setTop (mkF m 26 #[.val (.long q0), .second, .val (.long q1), .second, .val (.long q2), .second, .val (.long q3), .second, .val (.int p4), .val (.int p5), .val (.int (3 : Int32)), .val (.ref b1), .unset, .unset, .unset, .unset, .unset, .unset, .unset, .unset, .unset, .unset] [(.ref b2)])) _
    refine XS.astore X2.here hx rfl (hb hby at_26) rfl rfl (l' := #[.val (.long q0), .second, .val (.long q1), .second, .val (.long q2), .second, .val (.long q3), .second, .val (.int p4), .val (.int p5), .val (.int (3 : Int32)), .val (.ref b1), .val (.ref b2), .unset, .unset, .unset, .unset, .unset, .unset, .unset, .unset, .unset]) rfl ?_
    show Steps p.tables e below (T2.setTop (mkF m 28 #[.val (.long q0), .second, .val (.long q1), .second, .val (.long q2), .second, .val (.long q3), .second, .val (.int p4), .val (.int p5), .val (.int (3 : Int32)), .val (.ref b1), .val (.ref b2), .unset, .unset, .unset, .unset, .unset, .unset, .unset, .unset, .unset] [])) _
    refine XS.aload X2.here hx rfl (hb hby at_28) rfl rfl ?_
    show Steps p.tables e below (T2.setTop (mkF m 30 #[.val (.long q0), .second, .val (.long q1), .second, .val (.long q2), .second, .val (.long q3), .second, .val (.int p4), .val (.int p5), .val (.int (3 : Int32)), .val (.ref b1), .val (.ref b2), .unset, .unset, .unset, .unset, .unset, .unset, .unset, .unset, .unset] [(.ref b1)])) _
    refine st4 _ ?_
    show Steps p.tables e below (T4.setTop (mkF m 33 #[.val (.long q0), .second, .val (.long q1), .second, .val (.long q2), .second, .val (.long q3), .second, .val (.int p4), .val (.int p5), .val (.int (3 : Int32)), .val (.ref b1), .val (.ref b2), .unset, .unset, .unset, .unset, .unset, .unset, .unset, .unset, .unset] [(.long (own_fin (own_st (own_st (own_st (0) q0) q1) q2)))])) _
    refine XT.lstore X4.here hx rfl (hb hby at_33) rfl (l' := #[.val (.long q0), .second, .val (.long q1), .second, .val (.long q2), .second, .val (.long q3), .second, .val (.int p4), .val (.int p5), .val (.int (3 : Int32)), .val (.ref b1), .val (.ref b2), .val (.long (own_fin (own_st (own_st (own_st (0) q0) q1) q2))), .second, .unset, .unset, .unset, .unset, .unset, .unset, .unset]) rfl ?_
    show Steps p.tables e below (T4.setTop (mkF m 35 #[.val (.long q0), .second, .val (.long q1), .second, .val (.long q2), .second, .val (.long q3), .second, .val (.int p4), .val (.int p5), .val (.int (3 : Int32)), .val (.ref b1), .val (.ref b2), .val (.long (own_fin (own_st (own_st (own_st (0) q0) q1) q2))), .second, .unset, .unset, .unset, .unset, .unset, .unset, .unset] [])) _
    refine XT.lload X4.here hx rfl (hb hby at_35) rfl ?_
    show Steps p.tables e below (T4.setTop (mkF m 37 #[.val (.long q0), .second, .val (.long q1), .second, .val (.long q2), .second, .val (.long q3), .second, .val (.int p4), .val (.int p5), .val (.int (3 : Int32)), .val (.ref b1), .val (.ref b2), .val (.long (own_fin (own_st (own_st (own_st (0) q0) q1) q2))), .second, .unset, .unset, .unset, .unset, .unset, .unset, .unset] [(.long (own_fin (own_st (own_st (own_st (0) q0) q1) q2)))])) _
    refine XS.aload X4.here hx rfl (hb hby at_37) rfl rfl ?_
    show Steps p.tables e below (T4.setTop (mkF m 39 #[.val (.long q0), .second, .val (.long q1), .second, .val (.long q2), .second, .val (.long q3), .second, .val (.int p4), .val (.int p5), .val (.int (3 : Int32)), .val (.ref b1), .val (.ref b2), .val (.long (own_fin (own_st (own_st (own_st (0) q0) q1) q2))), .second, .unset, .unset, .unset, .unset, .unset, .unset, .unset] [(.ref b2), (.long (own_fin (own_st (own_st (own_st (0) q0) q1) q2)))])) _
    refine st5 _ ?_
    show Steps p.tables e below (T5.setTop (mkF m 42 #[.val (.long q0), .second, .val (.long q1), .second, .val (.long q2), .second, .val (.long q3), .second, .val (.int p4), .val (.int p5), .val (.int (3 : Int32)), .val (.ref b1), .val (.ref b2), .val (.long (own_fin (own_st (own_st (own_st (0) q0) q1) q2))), .second, .unset, .unset, .unset, .unset, .unset, .unset, .unset] [(.long (own_fin (own_st (own_st (own_st (0) q0) q1) q2))), (.long (own_fin (own_st (own_st (own_st (0) q0) q1) q2)))])) _
    refine XT.lcmp X5.here hx rfl (hb hby at_42) rfl ?_
    show Steps p.tables e below (T5.setTop (mkF m 43 #[.val (.long q0), .second, .val (.long q1), .second, .val (.long q2), .second, .val (.long q3), .second, .val (.int p4), .val (.int p5), .val (.int (3 : Int32)), .val (.ref b1), .val (.ref b2), .val (.long (own_fin (own_st (own_st (own_st (0) q0) q1) q2))), .second, .unset, .unset, .unset, .unset, .unset, .unset, .unset] [(.int (XT.cmpL (own_fin (own_st (own_st (own_st (0) q0) q1) q2)) (own_fin (own_st (own_st (own_st (0) q0) q1) q2))))])) _
    refine XS.ifNo X5.here hx rfl (hb hby at_43) rfl (XT.ll_ne_f rfl) ?_
    show Steps p.tables e below (T5.setTop (mkF m 46 #[.val (.long q0), .second, .val (.long q1), .second, .val (.long q2), .second, .val (.long q3), .second, .val (.int p4), .val (.int p5), .val (.int (3 : Int32)), .val (.ref b1), .val (.ref b2), .val (.long (own_fin (own_st (own_st (own_st (0) q0) q1) q2))), .second, .unset, .unset, .unset, .unset, .unset, .unset, .unset] [])) _
    refine XS.aload X5.here hx rfl (hb hby at_46) rfl rfl ?_
    show Steps p.tables e below (T5.setTop (mkF m 48 #[.val (.long q0), .second, .val (.long q1), .second, .val (.long q2), .second, .val (.long q3), .second, .val (.int p4), .val (.int p5), .val (.int (3 : Int32)), .val (.ref b1), .val (.ref b2), .val (.long (own_fin (own_st (own_st (own_st (0) q0) q1) q2))), .second, .unset, .unset, .unset, .unset, .unset, .unset, .unset] [(.ref b1)])) _
    refine XS.iload X5.here hx rfl (hb hby at_48) rfl ?_
    show Steps p.tables e below (T5.setTop (mkF m 50 #[.val (.long q0), .second, .val (.long q1), .second, .val (.long q2), .second, .val (.long q3), .second, .val (.int p4), .val (.int p5), .val (.int (3 : Int32)), .val (.ref b1), .val (.ref b2), .val (.long (own_fin (own_st (own_st (own_st (0) q0) q1) q2))), .second, .unset, .unset, .unset, .unset, .unset, .unset, .unset] [(.int (3 : Int32)), (.ref b1)])) _
    refine XT.lloadN X5.here hx rfl (hb hby at_50) rfl ?_
    show Steps p.tables e below (T5.setTop (mkF m 51 #[.val (.long q0), .second, .val (.long q1), .second, .val (.long q2), .second, .val (.long q3), .second, .val (.int p4), .val (.int p5), .val (.int (3 : Int32)), .val (.ref b1), .val (.ref b2), .val (.long (own_fin (own_st (own_st (own_st (0) q0) q1) q2))), .second, .unset, .unset, .unset, .unset, .unset, .unset, .unset] [(.long q0), (.int (3 : Int32)), (.ref b1)])) _
    refine XT.lloadN X5.here hx rfl (hb hby at_51) rfl ?_
    show Steps p.tables e below (T5.setTop (mkF m 52 #[.val (.long q0), .second, .val (.long q1), .second, .val (.long q2), .second, .val (.long q3), .second, .val (.int p4), .val (.int p5), .val (.int (3 : Int32)), .val (.ref b1), .val (.ref b2), .val (.long (own_fin (own_st (own_st (own_st (0) q0) q1) q2))), .second, .unset, .unset, .unset, .unset, .unset, .unset, .unset] [(.long q1), (.long q0), (.int (3 : Int32)), (.ref b1)])) _
    refine XT.lload X5.here hx rfl (hb hby at_52) rfl ?_
    show Steps p.tables e below (T5.setTop (mkF m 54 #[.val (.long q0), .second, .val (.long q1), .second, .val (.long q2), .second, .val (.long q3), .second, .val (.int p4), .val (.int p5), .val (.int (3 : Int32)), .val (.ref b1), .val (.ref b2), .val (.long (own_fin (own_st (own_st (own_st (0) q0) q1) q2))), .second, .unset, .unset, .unset, .unset, .unset, .unset, .unset] [(.long q2), (.long q1), (.long q0), (.int (3 : Int32)), (.ref b1)])) _
    refine st6 _ ?_
    show Steps p.tables e below (T6.setTop (mkF m 57 #[.val (.long q0), .second, .val (.long q1), .second, .val (.long q2), .second, .val (.long q3), .second, .val (.int p4), .val (.int p5), .val (.int (3 : Int32)), .val (.ref b1), .val (.ref b2), .val (.long (own_fin (own_st (own_st (own_st (0) q0) q1) q2))), .second, .unset, .unset, .unset, .unset, .unset, .unset, .unset] [(.int (1 : Int32))])) _
    refine XS.ifNo X6.here hx rfl (hb hby at_57) rfl (XT.i0_eq_f (by decide)) ?_
    show Steps p.tables e below (T6.setTop (mkF m 60 #[.val (.long q0), .second, .val (.long q1), .second, .val (.long q2), .second, .val (.long q3), .second, .val (.int p4), .val (.int p5), .val (.int (3 : Int32)), .val (.ref b1), .val (.ref b2), .val (.long (own_fin (own_st (own_st (own_st (0) q0) q1) q2))), .second, .unset, .unset, .unset, .unset, .unset, .unset, .unset] [])) _
    refine XT.iconstV X6.here hx rfl (1 : Int32) (hb hby at_60) (by decide) ?_
    show Steps p.tables e below (T6.setTop (mkF m 61 #[.val (.long q0), .second, .val (.long q1), .second, .val (.long q2), .second, .val (.long q3), .second, .val (.int p4), .val (.int p5), .val (.int (3 : Int32)), .val (.ref b1), .val (.ref b2), .val (.long (own_fin (own_st (own_st (own_st (0) q0) q1) q2))), .second, .unset, .unset, .unset, .unset, .unset, .unset, .unset] [(.int (1 : Int32))])) _
    refine XS.goto X6.here hx rfl (pc0 := 61) (pc' := 65) rfl (hb hby at_61) (by decide) (by decide) ?_
    show Steps p.tables e below (T6.setTop (mkF m 65 #[.val (.long q0), .second, .val (.long q1), .second, .val (.long q2), .second, .val (.long q3), .second, .val (.int p4), .val (.int p5), .val (.int (3 : Int32)), .val (.ref b1), .val (.ref b2), .val (.long (own_fin (own_st (own_st (own_st (0) q0) q1) q2))), .second, .unset, .unset, .unset, .unset, .unset, .unset, .unset] [(.int (1 : Int32))])) _
    refine XS.istore X6.here hx rfl (hb hby at_65) rfl (l' := #[.val (.long q0), .second, .val (.long q1), .second, .val (.long q2), .second, .val (.long q3), .second, .val (.int p4), .val (.int p5), .val (.int (3 : Int32)), .val (.ref b1), .val (.ref b2), .val (.long (own_fin (own_st (own_st (own_st (0) q0) q1) q2))), .second, .val (.int (1 : Int32)), .unset, .unset, .unset, .unset, .unset, .unset]) rfl ?_
    show Steps p.tables e below (T6.setTop (mkF m 67 #[.val (.long q0), .second, .val (.long q1), .second, .val (.long q2), .second, .val (.long q3), .second, .val (.int p4), .val (.int p5), .val (.int (3 : Int32)), .val (.ref b1), .val (.ref b2), .val (.long (own_fin (own_st (own_st (own_st (0) q0) q1) q2))), .second, .val (.int (1 : Int32)), .unset, .unset, .unset, .unset, .unset, .unset] [])) _
    refine XS.iload X6.here hx rfl (hb hby at_67) rfl ?_
    show Steps p.tables e below (T6.setTop (mkF m 69 #[.val (.long q0), .second, .val (.long q1), .second, .val (.long q2), .second, .val (.long q3), .second, .val (.int p4), .val (.int p5), .val (.int (3 : Int32)), .val (.ref b1), .val (.ref b2), .val (.long (own_fin (own_st (own_st (own_st (0) q0) q1) q2))), .second, .val (.int (1 : Int32)), .unset, .unset, .unset, .unset, .unset, .unset] [(.int (3 : Int32))])) _
    refine XS.ifYes X6.here hx rfl (pc0 := 69) (pc' := 75) rfl (hb hby at_69) rfl (XT.i0_ne_t (by decide)) (by decide) (by decide) ?_
    show Steps p.tables e below (T6.setTop (mkF m 75 #[.val (.long q0), .second, .val (.long q1), .second, .val (.long q2), .second, .val (.long q3), .second, .val (.int p4), .val (.int p5), .val (.int (3 : Int32)), .val (.ref b1), .val (.ref b2), .val (.long (own_fin (own_st (own_st (own_st (0) q0) q1) q2))), .second, .val (.int (1 : Int32)), .unset, .unset, .unset, .unset, .unset, .unset] [])) _
    refine XS.iload X6.here hx rfl (hb hby at_75) rfl ?_
    show Steps p.tables e below (T6.setTop (mkF m 77 #[.val (.long q0), .second, .val (.long q1), .second, .val (.long q2), .second, .val (.long q3), .second, .val (.int p4), .val (.int p5), .val (.int (3 : Int32)), .val (.ref b1), .val (.ref b2), .val (.long (own_fin (own_st (own_st (own_st (0) q0) q1) q2))), .second, .val (.int (1 : Int32)), .unset, .unset, .unset, .unset, .unset, .unset] [(.int p5)])) _
    refine X6.ldcI hx hown (mvT hZ (hw _ (List.mem_of_getElem? (i := 14) rfl))) rfl (hb hby at_77) ?_
    show Steps p.tables e below (T6.setTop (mkF m 79 #[.val (.long q0), .second, .val (.long q1), .second, .val (.long q2), .second, .val (.long q3), .second, .val (.int p4), .val (.int p5), .val (.int (3 : Int32)), .val (.ref b1), .val (.ref b2), .val (.long (own_fin (own_st (own_st (own_st (0) q0) q1) q2))), .second, .val (.int (1 : Int32)), .unset, .unset, .unset, .unset, .unset, .unset] [(.int (2147483647 : Int32)), (.int p5)])) _
    refine XS.iand X6.here hx rfl (hb hby at_79) rfl ?_
    show Steps p.tables e below (T6.setTop (mkF m 80 #[.val (.long q0), .second, .val (.long q1), .second, .val (.long q2), .second, .val (.long q3), .second, .val (.int p4), .val (.int p5), .val (.int (3 : Int32)), .val (.ref b1), .val (.ref b2), .val (.long (own_fin (own_st (own_st (own_st (0) q0) q1) q2))), .second, .val (.int (1 : Int32)), .unset, .unset, .unset, .unset, .unset, .unset] [(.int (p5 &&& (2147483647 : Int32)))])) _
    refine XS.iload X6.here hx rfl (hb hby at_80) rfl ?_
    show Steps p.tables e below (T6.setTop (mkF m 82 #[.val (.long q0), .second, .val (.long q1), .second, .val (.long q2), .second, .val (.long q3), .second, .val (.int p4), .val (.int p5), .val (.int (3 : Int32)), .val (.ref b1), .val (.ref b2), .val (.long (own_fin (own_st (own_st (own_st (0) q0) q1) q2))), .second, .val (.int (1 : Int32)), .unset, .unset, .unset, .unset, .unset, .unset] [(.int (3 : Int32)), (.int (p5 &&& (2147483647 : Int32)))])) _
    refine XS.irem X6.here hx rfl (hb hby at_82) rfl (by decide) ?_
    show Steps p.tables e below (T6.setTop (mkF m 83 #[.val (.long q0), .second, .val (.long q1), .second, .val (.long q2), .second, .val (.long q3), .second, .val (.int p4), .val (.int p5), .val (.int (3 : Int32)), .val (.ref b1), .val (.ref b2), .val (.long (own_fin (own_st (own_st (own_st (0) q0) q1) q2))), .second, .val (.int (1 : Int32)), .unset, .unset, .unset, .unset, .unset, .unset] [(.int ((p5 &&& (2147483647 : Int32)) - ((p5 &&& (2147483647 : Int32)) / (3 : Int32)) * (3 : Int32)))])) _
    show Steps p.tables e below (T6.setTop (mkF m 83 #[.val (.long q0), .second, .val (.long q1), .second, .val (.long q2), .second, .val (.long q3), .second, .val (.int p4), .val (.int p5), .val (.int (3 : Int32)), .val (.ref b1), .val (.ref b2), .val (.long (own_fin (own_st (own_st (own_st (0) q0) q1) q2))), .second, .val (.int (1 : Int32)), .unset, .unset, .unset, .unset, .unset, .unset] [(.int (own_P p5 (3 : Int32)))])) _
    show Steps p.tables e below (T6.setTop (mkF m 83 #[.val (.long q0), .second, .val (.long q1), .second, .val (.long q2), .second, .val (.long q3), .second, .val (.int p4), .val (.int p5), .val (.int (3 : Int32)), .val (.ref b1), .val (.ref b2), .val (.long (own_fin (own_st (own_st (own_st (0) q0) q1) q2))), .second, .val (.int (1 : Int32)), .unset, .unset, .unset, .unset, .unset, .unset] [(.int (own_P p5 (3 : Int32)))])) _
    refine XS.istore X6.here hx rfl (hb hby at_83) rfl (l' := #[.val (.long q0), .second, .val (.long q1), .second, .val (.long q2), .second, .val (.long q3), .second, .val (.int p4), .val (.int p5), .val (.int (3 : Int32)), .val (.ref b1), .val (.ref b2), .val (.long (own_fin (own_st (own_st (own_st (0) q0) q1) q2))), .second, .val (.int (1 : Int32)), .val (.int (own_P p5 (3 : Int32))), .unset, .unset, .unset, .unset, .unset]) rfl ?_
    show Steps p.tables e below (T6.setTop (mkF m 85 #[.val (.long q0), .second, .val (.long q1), .second, .val (.long q2), .second, .val (.long q3), .second, .val (.int p4), .val (.int p5), .val (.int (3 : Int32)), .val (.ref b1), .val (.ref b2), .val (.long (own_fin (own_st (own_st (own_st (0) q0) q1) q2))), .second, .val (.int (1 : Int32)), .val (.int (own_P p5 (3 : Int32))), .unset, .unset, .unset, .unset, .unset] [])) _
    refine XS.iload X6.here hx rfl (hb hby at_85) rfl ?_
    show Steps p.tables e below (T6.setTop (mkF m 87 #[.val (.long q0), .second, .val (.long q1), .second, .val (.long q2), .second, .val (.long q3), .second, .val (.int p4), .val (.int p5), .val (.int (3 : Int32)), .val (.ref b1), .val (.ref b2), .val (.long (own_fin (own_st (own_st (own_st (0) q0) q1) q2))), .second, .val (.int (1 : Int32)), .val (.int (own_P p5 (3 : Int32))), .unset, .unset, .unset, .unset, .unset] [(.int (own_P p5 (3 : Int32)))])) _
    exact k)
  by_cases hc87_8 : (own_P p5 (3 : Int32)) = (0 : Int32)
  · obtain ⟨_, _, ⟨T9, L9, k9, n9⟩, -, X9, ⟨Lc9, hQ9, l9, y9, z9⟩, st9⟩ := Jvm.LawKit.callS X6 hx (y := (⟨"com/example/bare_refinement/barerefinement/exploration/StateSpaceHashPinLaw", "make", "(IJJJ)[J"⟩ : MethodName)) hown (mvT hZ (hw _ (List.mem_of_getElem? (i := 0) rfl))) (mvT hZ (hw _ (List.mem_of_getElem? (i := 1) rfl))) (mvT hZ (hw _ (List.mem_of_getElem? (i := 2) rfl))) (mvT hZ (hw _ (List.mem_of_getElem? (i := 3) rfl))) (by decide) (backOf (W := 0) (rmMake3 l Z av0 hw [] q3 q1 q2 T2.heap n0 Z2) hZ (hw _ (List.mem_of_getElem? (i := 3) rfl)) (hw _ (List.mem_of_getElem? (i := 2) rfl)) (by decide) (by decide)) (g := (mkF m 146 #[.val (.long q0), .second, .val (.long q1), .second, .val (.long q2), .second, .val (.long q3), .second, .val (.int p4), .val (.int p5), .val (.int (3 : Int32)), .val (.ref b1), .val (.ref b2), .val (.long (own_fin (own_st (own_st (own_st (0) q0) q1) q2))), .second, .val (.int (1 : Int32)), .val (.int (own_P p5 (3 : Int32))), .val (.long q0), .second, .unset, .unset, .unset] [(.long q2), (.long q1), (.long q3), (.int (3 : Int32))])) rfl (by rw [hml]; rfl) (argsL := [(.int (3 : Int32)), (.long q3), (.long q1), (.long q2)]) (rest := []) (lenOf pd__IJJJ_J rfl) rfl (by show 2 * 0 + _ ≤ _; exact Nat.le_of_eq rfl) (hb hby at_146) (fun _ _ => ⟨rfl, e6, (by decide : 2 + 1 ≤ _), (by decide : 6 + 3 ≤ _)⟩)
    dsimp only [Pt.U, Pt.locs, Pt.cells, Pt.slots] at X9 l9 y9 z9 st9 hQ9
    subst l9 y9 z9
    obtain ⟨b9, k9', rfl, N9q, ge9, K9, V9⟩ := hQ9
    have N9 := Fr.app N6 N9q
    have e9 : T9.heap = T9.heap := rfl
    have ne_b1_b9 : b1 ≠ b9 := Nat.ne_of_lt (Nat.lt_of_lt_of_le f3.lt ge9)
    have ne_b2_b9 : b2 ≠ b9 := Nat.ne_of_lt (Nat.lt_of_lt_of_le V2.lt ge9)
    have Z9 : n0 ≤ T9.heap.size := Nat.le_trans Z2 K9.1
    obtain ⟨_, _, ⟨T10, L10, k10, n10⟩, -, X10, ⟨Lc10, hQ10, l10, y10, z10⟩, st10⟩ := Jvm.LawKit.callS X9 hx (y := (⟨"com/example/bare_refinement/barerefinement/exploration/StateSpace", "hash", "([J)J"⟩ : MethodName)) hown (mvT hZ (hw _ (List.mem_of_getElem? (i := 5) rfl))) (mvT hZ (hw _ (List.mem_of_getElem? (i := 6) rfl))) (mvT hZ (hw _ (List.mem_of_getElem? (i := 7) rfl))) (mvT hZ (hw _ (List.mem_of_getElem? (i := 8) rfl))) (by decide) (backOf (W := 0) (rmHash3 l Z av0 hw [] b9 k9' q3 q1 q2 T9.heap n0 Z9 V9) hZ (hw _ (List.mem_of_getElem? (i := 8) rfl)) (hw _ (List.mem_of_getElem? (i := 7) rfl)) (by decide) (by decide)) (g := (mkF m 153 #[.val (.long q0), .second, .val (.long q1), .second, .val (.long q2), .second, .val (.long q3), .second, .val (.int p4), .val (.int p5), .val (.int (3 : Int32)), .val (.ref b1), .val (.ref b2), .val (.long (own_fin (own_st (own_st (own_st (0) q0) q1) q2))), .second, .val (.int (1 : Int32)), .val (.int (own_P p5 (3 : Int32))), .val (.long q0), .second, .val (.ref b9), .unset, .unset] [(.ref b9)])) rfl (by rw [hml]; rfl) (argsL := [(.ref b9)]) (rest := []) (lenOf pd__J_J rfl) rfl (by show 2 * 0 + _ ≤ _; exact Nat.le_of_eq rfl) (hb hby at_153) (fun _ _ => ⟨rfl, e9, (by decide : 3 + 0 ≤ _), (by decide : 9 + 0 ≤ _)⟩)
    dsimp only [Pt.U, Pt.locs, Pt.cells, Pt.slots] at X10 l10 y10 z10 st10 hQ10
    subst l10 y10 z10
    obtain ⟨rfl, N10q, hh10⟩ := hQ10
    have N10 := Fr.app N9 N10q
    have e10 : T10.heap = T9.heap := hh10
    have S11 : ∀ t, Steps p.tables e below (T10.setTop (mkF m 168 #[.val (.long q0), .second, .val (.long q1), .second, .val (.long q2), .second, .val (.long q3), .second, .val (.int p4), .val (.int p5), .val (.int (3 : Int32)), .val (.ref b1), .val (.ref b2), .val (.long (own_fin (own_st (own_st (own_st (0) q0) q1) q2))), .second, .val (.int (1 : Int32)), .val (.int (own_P p5 (3 : Int32))), .val (.long q0), .second, .val (.ref b9), .val (.long (own_fin (own_st (own_st (own_st (0) q3) q1) q2))), .second] [(.int (XT.cmpL (own_fin (own_st (own_st (own_st (0) q0) q1) q2)) (own_fin (own_st (own_st (own_st (0) q3) q1) q2))))])) t → Steps p.tables e below (s₁.setTop (mkF m 0 #[.val (.long q0), .second, .val (.long q1), .second, .val (.long q2), .second, .val (.long q3), .second, .val (.int p4), .val (.int p5), .unset, .unset, .unset, .unset, .unset, .unset, .unset, .unset, .unset, .unset, .unset, .unset] [])) t := fun t k => S7 t (by
      show Steps p.tables e below (T6.setTop (mkF m 87 #[.val (.long q0), .second, .val (.long q1), .second, .val (.long q2), .second, .val (.long q3), .second, .val (.int p4), .val (.int p5), .val (.int (3 : Int32)), .val (.ref b1), .val (.ref b2), .val (.long (own_fin (own_st (own_st (own_st (0) q0) q1) q2))), .second, .val (.int (1 : Int32)), .val (.int (own_P p5 (3 : Int32))), .unset, .unset, .unset, .unset, .unset] [(.int (own_P p5 (3 : Int32)))])) _
      refine XS.ifNo X6.here hx rfl (hb hby at_87) rfl (XT.i0_ne_f hc87_8) ?_
      show Steps p.tables e below (T6.setTop (mkF m 90 #[.val (.long q0), .second, .val (.long q1), .second, .val (.long q2), .second, .val (.long q3), .second, .val (.int p4), .val (.int p5), .val (.int (3 : Int32)), .val (.ref b1), .val (.ref b2), .val (.long (own_fin (own_st (own_st (own_st (0) q0) q1) q2))), .second, .val (.int (1 : Int32)), .val (.int (own_P p5 (3 : Int32))), .unset, .unset, .unset, .unset, .unset] [])) _
      refine XT.lloadN X6.here hx rfl (hb hby at_90) rfl ?_
      show Steps p.tables e below (T6.setTop (mkF m 91 #[.val (.long q0), .second, .val (.long q1), .second, .val (.long q2), .second, .val (.long q3), .second, .val (.int p4), .val (.int p5), .val (.int (3 : Int32)), .val (.ref b1), .val (.ref b2), .val (.long (own_fin (own_st (own_st (own_st (0) q0) q1) q2))), .second, .val (.int (1 : Int32)), .val (.int (own_P p5 (3 : Int32))), .unset, .unset, .unset, .unset, .unset] [(.long q0)])) _
      refine XS.goto X6.here hx rfl (pc0 := 91) (pc' := 106) rfl (hb hby at_91) (by decide) (by decide) ?_
      show Steps p.tables e below (T6.setTop (mkF m 106 #[.val (.long q0), .second, .val (.long q1), .second, .val (.long q2), .second, .val (.long q3), .second, .val (.int p4), .val (.int p5), .val (.int (3 : Int32)), .val (.ref b1), .val (.ref b2), .val (.long (own_fin (own_st (own_st (own_st (0) q0) q1) q2))), .second, .val (.int (1 : Int32)), .val (.int (own_P p5 (3 : Int32))), .unset, .unset, .unset, .unset, .unset] [(.long q0)])) _
      refine XT.lstore X6.here hx rfl (hb hby at_106) rfl (l' := #[.val (.long q0), .second, .val (.long q1), .second, .val (.long q2), .second, .val (.long q3), .second, .val (.int p4), .val (.int p5), .val (.int (3 : Int32)), .val (.ref b1), .val (.ref b2), .val (.long (own_fin (own_st (own_st (own_st (0) q0) q1) q2))), .second, .val (.int (1 : Int32)), .val (.int (own_P p5 (3 : Int32))), .val (.long q0), .second, .unset, .unset, .unset]) rfl ?_
      show Steps p.tables e below (T6.setTop (mkF m 108 #[.val (.long q0), .second, .val (.long q1), .second, .val (.long q2), .second, .val (.long q3), .second, .val (.int p4), .val (.int p5), .val (.int (3 : Int32)), .val (.ref b1), .val (.ref b2), .val (.long (own_fin (own_st (own_st (own_st (0) q0) q1) q2))), .second, .val (.int (1 : Int32)), .val (.int (own_P p5 (3 : Int32))), .val (.long q0), .second, .unset, .unset, .unset] [])) _
      refine XS.iload X6.here hx rfl (hb hby at_108) rfl ?_
      show Steps p.tables e below (T6.setTop (mkF m 110 #[.val (.long q0), .second, .val (.long q1), .second, .val (.long q2), .second, .val (.long q3), .second, .val (.int p4), .val (.int p5), .val (.int (3 : Int32)), .val (.ref b1), .val (.ref b2), .val (.long (own_fin (own_st (own_st (own_st (0) q0) q1) q2))), .second, .val (.int (1 : Int32)), .val (.int (own_P p5 (3 : Int32))), .val (.long q0), .second, .unset, .unset, .unset] [(.int (3 : Int32))])) _
      refine XS.iload X6.here hx rfl (hb hby at_110) rfl ?_
      show Steps p.tables e below (T6.setTop (mkF m 112 #[.val (.long q0), .second, .val (.long q1), .second, .val (.long q2), .second, .val (.long q3), .second, .val (.int p4), .val (.int p5), .val (.int (3 : Int32)), .val (.ref b1), .val (.ref b2), .val (.long (own_fin (own_st (own_st (own_st (0) q0) q1) q2))), .second, .val (.int (1 : Int32)), .val (.int (own_P p5 (3 : Int32))), .val (.long q0), .second, .unset, .unset, .unset] [(.int (own_P p5 (3 : Int32))), (.int (3 : Int32))])) _
      refine XS.ifNo X6.here hx rfl (hb hby at_112) rfl (XT.i0_ne_f hc87_8) ?_
      show Steps p.tables e below (T6.setTop (mkF m 115 #[.val (.long q0), .second, .val (.long q1), .second, .val (.long q2), .second, .val (.long q3), .second, .val (.int p4), .val (.int p5), .val (.int (3 : Int32)), .val (.ref b1), .val (.ref b2), .val (.long (own_fin (own_st (own_st (own_st (0) q0) q1) q2))), .second, .val (.int (1 : Int32)), .val (.int (own_P p5 (3 : Int32))), .val (.long q0), .second, .unset, .unset, .unset] [(.int (3 : Int32))])) _
      refine XT.lload X6.here hx rfl (hb hby at_115) rfl ?_
      show Steps p.tables e below (T6.setTop (mkF m 117 #[.val (.long q0), .second, .val (.long q1), .second, .val (.long q2), .second, .val (.long q3), .second, .val (.int p4), .val (.int p5), .val (.int (3 : Int32)), .val (.ref b1), .val (.ref b2), .val (.long (own_fin (own_st (own_st (own_st (0) q0) q1) q2))), .second, .val (.int (1 : Int32)), .val (.int (own_P p5 (3 : Int32))), .val (.long q0), .second, .unset, .unset, .unset] [(.long q3), (.int (3 : Int32))])) _
      refine XS.goto X6.here hx rfl (pc0 := 117) (pc' := 121) rfl (hb hby at_117) (by decide) (by decide) ?_
      show Steps p.tables e below (T6.setTop (mkF m 121 #[.val (.long q0), .second, .val (.long q1), .second, .val (.long q2), .second, .val (.long q3), .second, .val (.int p4), .val (.int p5), .val (.int (3 : Int32)), .val (.ref b1), .val (.ref b2), .val (.long (own_fin (own_st (own_st (own_st (0) q0) q1) q2))), .second, .val (.int (1 : Int32)), .val (.int (own_P p5 (3 : Int32))), .val (.long q0), .second, .unset, .unset, .unset] [(.long q3), (.int (3 : Int32))])) _
      refine XS.iload X6.here hx rfl (hb hby at_121) rfl ?_
      show Steps p.tables e below (T6.setTop (mkF m 123 #[.val (.long q0), .second, .val (.long q1), .second, .val (.long q2), .second, .val (.long q3), .second, .val (.int p4), .val (.int p5), .val (.int (3 : Int32)), .val (.ref b1), .val (.ref b2), .val (.long (own_fin (own_st (own_st (own_st (0) q0) q1) q2))), .second, .val (.int (1 : Int32)), .val (.int (own_P p5 (3 : Int32))), .val (.long q0), .second, .unset, .unset, .unset] [(.int (own_P p5 (3 : Int32))), (.long q3), (.int (3 : Int32))])) _
      refine XT.iconstV X6.here hx rfl (1 : Int32) (hb hby at_123) (by decide) ?_
      show Steps p.tables e below (T6.setTop (mkF m 124 #[.val (.long q0), .second, .val (.long q1), .second, .val (.long q2), .second, .val (.long q3), .second, .val (.int p4), .val (.int p5), .val (.int (3 : Int32)), .val (.ref b1), .val (.ref b2), .val (.long (own_fin (own_st (own_st (own_st (0) q0) q1) q2))), .second, .val (.int (1 : Int32)), .val (.int (own_P p5 (3 : Int32))), .val (.long q0), .second, .unset, .unset, .unset] [(.int (1 : Int32)), (.int (own_P p5 (3 : Int32))), (.long q3), (.int (3 : Int32))])) _
      refine XS.icmpYes X6.here hx rfl (pc0 := 124) (pc' := 132) rfl (hb hby at_124) rfl (XT.ii_ne_t (by rw [hc87_8]; decide)) (by decide) (by decide) ?_
      show Steps p.tables e below (T6.setTop (mkF m 132 #[.val (.long q0), .second, .val (.long q1), .second, .val (.long q2), .second, .val (.long q3), .second, .val (.int p4), .val (.int p5), .val (.int (3 : Int32)), .val (.ref b1), .val (.ref b2), .val (.long (own_fin (own_st (own_st (own_st (0) q0) q1) q2))), .second, .val (.int (1 : Int32)), .val (.int (own_P p5 (3 : Int32))), .val (.long q0), .second, .unset, .unset, .unset] [(.long q3), (.int (3 : Int32))])) _
      refine XT.lloadN X6.here hx rfl (hb hby at_132) rfl ?_
      show Steps p.tables e below (T6.setTop (mkF m 133 #[.val (.long q0), .second, .val (.long q1), .second, .val (.long q2), .second, .val (.long q3), .second, .val (.int p4), .val (.int p5), .val (.int (3 : Int32)), .val (.ref b1), .val (.ref b2), .val (.long (own_fin (own_st (own_st (own_st (0) q0) q1) q2))), .second, .val (.int (1 : Int32)), .val (.int (own_P p5 (3 : Int32))), .val (.long q0), .second, .unset, .unset, .unset] [(.long q1), (.long q3), (.int (3 : Int32))])) _
      refine XS.iload X6.here hx rfl (hb hby at_133) rfl ?_
      show Steps p.tables e below (T6.setTop (mkF m 135 #[.val (.long q0), .second, .val (.long q1), .second, .val (.long q2), .second, .val (.long q3), .second, .val (.int p4), .val (.int p5), .val (.int (3 : Int32)), .val (.ref b1), .val (.ref b2), .val (.long (own_fin (own_st (own_st (own_st (0) q0) q1) q2))), .second, .val (.int (1 : Int32)), .val (.int (own_P p5 (3 : Int32))), .val (.long q0), .second, .unset, .unset, .unset] [(.int (own_P p5 (3 : Int32))), (.long q1), (.long q3), (.int (3 : Int32))])) _
      refine XT.iconstV X6.here hx rfl (2 : Int32) (hb hby at_135) (by decide) ?_
      show Steps p.tables e below (T6.setTop (mkF m 136 #[.val (.long q0), .second, .val (.long q1), .second, .val (.long q2), .second, .val (.long q3), .second, .val (.int p4), .val (.int p5), .val (.int (3 : Int32)), .val (.ref b1), .val (.ref b2), .val (.long (own_fin (own_st (own_st (own_st (0) q0) q1) q2))), .second, .val (.int (1 : Int32)), .val (.int (own_P p5 (3 : Int32))), .val (.long q0), .second, .unset, .unset, .unset] [(.int (2 : Int32)), (.int (own_P p5 (3 : Int32))), (.long q1), (.long q3), (.int (3 : Int32))])) _
      refine XS.icmpYes X6.here hx rfl (pc0 := 136) (pc' := 144) rfl (hb hby at_136) rfl (XT.ii_ne_t (by rw [hc87_8]; decide)) (by decide) (by decide) ?_
      show Steps p.tables e below (T6.setTop (mkF m 144 #[.val (.long q0), .second, .val (.long q1), .second, .val (.long q2), .second, .val (.long q3), .second, .val (.int p4), .val (.int p5), .val (.int (3 : Int32)), .val (.ref b1), .val (.ref b2), .val (.long (own_fin (own_st (own_st (own_st (0) q0) q1) q2))), .second, .val (.int (1 : Int32)), .val (.int (own_P p5 (3 : Int32))), .val (.long q0), .second, .unset, .unset, .unset] [(.long q1), (.long q3), (.int (3 : Int32))])) _
      refine XT.lload X6.here hx rfl (hb hby at_144) rfl ?_
      show Steps p.tables e below (T6.setTop (mkF m 146 #[.val (.long q0), .second, .val (.long q1), .second, .val (.long q2), .second, .val (.long q3), .second, .val (.int p4), .val (.int p5), .val (.int (3 : Int32)), .val (.ref b1), .val (.ref b2), .val (.long (own_fin (own_st (own_st (own_st (0) q0) q1) q2))), .second, .val (.int (1 : Int32)), .val (.int (own_P p5 (3 : Int32))), .val (.long q0), .second, .unset, .unset, .unset] [(.long q2), (.long q1), (.long q3), (.int (3 : Int32))])) _
      refine st9 _ ?_
      show Steps p.tables e below (T9.setTop (mkF m 149 #[.val (.long q0), .second, .val (.long q1), .second, .val (.long q2), .second, .val (.long q3), .second, .val (.int p4), .val (.int p5), .val (.int (3 : Int32)), .val (.ref b1), .val (.ref b2), .val (.long (own_fin (own_st (own_st (own_st (0) q0) q1) q2))), .second, .val (.int (1 : Int32)), .val (.int (own_P p5 (3 : Int32))), .val (.long q0), .second, .unset, .unset, .unset] [(.ref b9)])) _
      refine XS.astore X9.here hx rfl (hb hby at_149) rfl rfl (l' := #[.val (.long q0), .second, .val (.long q1), .second, .val (.long q2), .second, .val (.long q3), .second, .val (.int p4), .val (.int p5), .val (.int (3 : Int32)), .val (.ref b1), .val (.ref b2), .val (.long (own_fin (own_st (own_st (own_st (0) q0) q1) q2))), .second, .val (.int (1 : Int32)), .val (.int (own_P p5 (3 : Int32))), .val (.long q0), .second, .val (.ref b9), .unset, .unset]) rfl ?_
      show Steps p.tables e below (T9.setTop (mkF m 151 #[.val (.long q0), .second, .val (.long q1), .second, .val (.long q2), .second, .val (.long q3), .second, .val (.int p4), .val (.int p5), .val (.int (3 : Int32)), .val (.ref b1), .val (.ref b2), .val (.long (own_fin (own_st (own_st (own_st (0) q0) q1) q2))), .second, .val (.int (1 : Int32)), .val (.int (own_P p5 (3 : Int32))), .val (.long q0), .second, .val (.ref b9), .unset, .unset] [])) _
      refine XS.aload X9.here hx rfl (hb hby at_151) rfl rfl ?_
      show Steps p.tables e below (T9.setTop (mkF m 153 #[.val (.long q0), .second, .val (.long q1), .second, .val (.long q2), .second, .val (.long q3), .second, .val (.int p4), .val (.int p5), .val (.int (3 : Int32)), .val (.ref b1), .val (.ref b2), .val (.long (own_fin (own_st (own_st (own_st (0) q0) q1) q2))), .second, .val (.int (1 : Int32)), .val (.int (own_P p5 (3 : Int32))), .val (.long q0), .second, .val (.ref b9), .unset, .unset] [(.ref b9)])) _
      refine st10 _ ?_
      show Steps p.tables e below (T10.setTop (mkF m 156 #[.val (.long q0), .second, .val (.long q1), .second, .val (.long q2), .second, .val (.long q3), .second, .val (.int p4), .val (.int p5), .val (.int (3 : Int32)), .val (.ref b1), .val (.ref b2), .val (.long (own_fin (own_st (own_st (own_st (0) q0) q1) q2))), .second, .val (.int (1 : Int32)), .val (.int (own_P p5 (3 : Int32))), .val (.long q0), .second, .val (.ref b9), .unset, .unset] [(.long (own_fin (own_st (own_st (own_st (0) q3) q1) q2)))])) _
      refine XT.lstore X10.here hx rfl (hb hby at_156) rfl (l' := #[.val (.long q0), .second, .val (.long q1), .second, .val (.long q2), .second, .val (.long q3), .second, .val (.int p4), .val (.int p5), .val (.int (3 : Int32)), .val (.ref b1), .val (.ref b2), .val (.long (own_fin (own_st (own_st (own_st (0) q0) q1) q2))), .second, .val (.int (1 : Int32)), .val (.int (own_P p5 (3 : Int32))), .val (.long q0), .second, .val (.ref b9), .val (.long (own_fin (own_st (own_st (own_st (0) q3) q1) q2))), .second]) rfl ?_
      show Steps p.tables e below (T10.setTop (mkF m 158 #[.val (.long q0), .second, .val (.long q1), .second, .val (.long q2), .second, .val (.long q3), .second, .val (.int p4), .val (.int p5), .val (.int (3 : Int32)), .val (.ref b1), .val (.ref b2), .val (.long (own_fin (own_st (own_st (own_st (0) q0) q1) q2))), .second, .val (.int (1 : Int32)), .val (.int (own_P p5 (3 : Int32))), .val (.long q0), .second, .val (.ref b9), .val (.long (own_fin (own_st (own_st (own_st (0) q3) q1) q2))), .second] [])) _
      refine XS.iload X10.here hx rfl (hb hby at_158) rfl ?_
      show Steps p.tables e below (T10.setTop (mkF m 160 #[.val (.long q0), .second, .val (.long q1), .second, .val (.long q2), .second, .val (.long q3), .second, .val (.int p4), .val (.int p5), .val (.int (3 : Int32)), .val (.ref b1), .val (.ref b2), .val (.long (own_fin (own_st (own_st (own_st (0) q0) q1) q2))), .second, .val (.int (1 : Int32)), .val (.int (own_P p5 (3 : Int32))), .val (.long q0), .second, .val (.ref b9), .val (.long (own_fin (own_st (own_st (own_st (0) q3) q1) q2))), .second] [(.int (1 : Int32))])) _
      refine XS.ifNo X10.here hx rfl (hb hby at_160) rfl (XT.i0_eq_f (by decide)) ?_
      show Steps p.tables e below (T10.setTop (mkF m 163 #[.val (.long q0), .second, .val (.long q1), .second, .val (.long q2), .second, .val (.long q3), .second, .val (.int p4), .val (.int p5), .val (.int (3 : Int32)), .val (.ref b1), .val (.ref b2), .val (.long (own_fin (own_st (own_st (own_st (0) q0) q1) q2))), .second, .val (.int (1 : Int32)), .val (.int (own_P p5 (3 : Int32))), .val (.long q0), .second, .val (.ref b9), .val (.long (own_fin (own_st (own_st (own_st (0) q3) q1) q2))), .second] [])) _
      refine XT.lload X10.here hx rfl (hb hby at_163) rfl ?_
      show Steps p.tables e below (T10.setTop (mkF m 165 #[.val (.long q0), .second, .val (.long q1), .second, .val (.long q2), .second, .val (.long q3), .second, .val (.int p4), .val (.int p5), .val (.int (3 : Int32)), .val (.ref b1), .val (.ref b2), .val (.long (own_fin (own_st (own_st (own_st (0) q0) q1) q2))), .second, .val (.int (1 : Int32)), .val (.int (own_P p5 (3 : Int32))), .val (.long q0), .second, .val (.ref b9), .val (.long (own_fin (own_st (own_st (own_st (0) q3) q1) q2))), .second] [(.long (own_fin (own_st (own_st (own_st (0) q0) q1) q2)))])) _
      refine XT.lload X10.here hx rfl (hb hby at_165) rfl ?_
      show Steps p.tables e below (T10.setTop (mkF m 167 #[.val (.long q0), .second, .val (.long q1), .second, .val (.long q2), .second, .val (.long q3), .second, .val (.int p4), .val (.int p5), .val (.int (3 : Int32)), .val (.ref b1), .val (.ref b2), .val (.long (own_fin (own_st (own_st (own_st (0) q0) q1) q2))), .second, .val (.int (1 : Int32)), .val (.int (own_P p5 (3 : Int32))), .val (.long q0), .second, .val (.ref b9), .val (.long (own_fin (own_st (own_st (own_st (0) q3) q1) q2))), .second] [(.long (own_fin (own_st (own_st (own_st (0) q3) q1) q2))), (.long (own_fin (own_st (own_st (own_st (0) q0) q1) q2)))])) _
      refine XT.lcmp X10.here hx rfl (hb hby at_167) rfl ?_
      show Steps p.tables e below (T10.setTop (mkF m 168 #[.val (.long q0), .second, .val (.long q1), .second, .val (.long q2), .second, .val (.long q3), .second, .val (.int p4), .val (.int p5), .val (.int (3 : Int32)), .val (.ref b1), .val (.ref b2), .val (.long (own_fin (own_st (own_st (own_st (0) q0) q1) q2))), .second, .val (.int (1 : Int32)), .val (.int (own_P p5 (3 : Int32))), .val (.long q0), .second, .val (.ref b9), .val (.long (own_fin (own_st (own_st (own_st (0) q3) q1) q2))), .second] [(.int (XT.cmpL (own_fin (own_st (own_st (own_st (0) q0) q1) q2)) (own_fin (own_st (own_st (own_st (0) q3) q1) q2))))])) _
      exact k)
    by_cases hc168_12 : (own_fin (own_st (own_st (own_st (0) q0) q1) q2)) = (own_fin (own_st (own_st (own_st (0) q3) q1) q2))
    · have S13 : ∀ t, Steps p.tables e below (T10.setTop (mkF m 197 #[.val (.long q0), .second, .val (.long q1), .second, .val (.long q2), .second, .val (.long q3), .second, .val (.int p4), .val (.int p5), .val (.int (3 : Int32)), .val (.ref b1), .val (.ref b2), .val (.long (own_fin (own_st (own_st (own_st (0) q0) q1) q2))), .second, .val (.int (1 : Int32)), .val (.int (own_P p5 (3 : Int32))), .val (.long q0), .second, .val (.ref b9), .val (.long (own_fin (own_st (own_st (own_st (0) q3) q1) q2))), .second] [(.int (1 : Int32))])) t → Steps p.tables e below (s₁.setTop (mkF m 0 #[.val (.long q0), .second, .val (.long q1), .second, .val (.long q2), .second, .val (.long q3), .second, .val (.int p4), .val (.int p5), .unset, .unset, .unset, .unset, .unset, .unset, .unset, .unset, .unset, .unset, .unset, .unset] [])) t := fun t k => S11 t (by
        show Steps p.tables e below (T10.setTop (mkF m 168 #[.val (.long q0), .second, .val (.long q1), .second, .val (.long q2), .second, .val (.long q3), .second, .val (.int p4), .val (.int p5), .val (.int (3 : Int32)), .val (.ref b1), .val (.ref b2), .val (.long (own_fin (own_st (own_st (own_st (0) q0) q1) q2))), .second, .val (.int (1 : Int32)), .val (.int (own_P p5 (3 : Int32))), .val (.long q0), .second, .val (.ref b9), .val (.long (own_fin (own_st (own_st (own_st (0) q3) q1) q2))), .second] [(.int (XT.cmpL (own_fin (own_st (own_st (own_st (0) q0) q1) q2)) (own_fin (own_st (own_st (own_st (0) q3) q1) q2))))])) _
        refine XS.ifNo X10.here hx rfl (hb hby at_168) rfl (XT.ll_ne_f hc168_12) ?_
        show Steps p.tables e below (T10.setTop (mkF m 171 #[.val (.long q0), .second, .val (.long q1), .second, .val (.long q2), .second, .val (.long q3), .second, .val (.int p4), .val (.int p5), .val (.int (3 : Int32)), .val (.ref b1), .val (.ref b2), .val (.long (own_fin (own_st (own_st (own_st (0) q0) q1) q2))), .second, .val (.int (1 : Int32)), .val (.int (own_P p5 (3 : Int32))), .val (.long q0), .second, .val (.ref b9), .val (.long (own_fin (own_st (own_st (own_st (0) q3) q1) q2))), .second] [])) _
        refine XT.iconstV X10.here hx rfl (1 : Int32) (hb hby at_171) (by decide) ?_
        show Steps p.tables e below (T10.setTop (mkF m 172 #[.val (.long q0), .second, .val (.long q1), .second, .val (.long q2), .second, .val (.long q3), .second, .val (.int p4), .val (.int p5), .val (.int (3 : Int32)), .val (.ref b1), .val (.ref b2), .val (.long (own_fin (own_st (own_st (own_st (0) q0) q1) q2))), .second, .val (.int (1 : Int32)), .val (.int (own_P p5 (3 : Int32))), .val (.long q0), .second, .val (.ref b9), .val (.long (own_fin (own_st (own_st (own_st (0) q3) q1) q2))), .second] [(.int (1 : Int32))])) _
        refine XS.goto X10.here hx rfl (pc0 := 172) (pc' := 176) rfl (hb hby at_172) (by decide) (by decide) ?_
        show Steps p.tables e below (T10.setTop (mkF m 176 #[.val (.long q0), .second, .val (.long q1), .second, .val (.long q2), .second, .val (.long q3), .second, .val (.int p4), .val (.int p5), .val (.int (3 : Int32)), .val (.ref b1), .val (.ref b2), .val (.long (own_fin (own_st (own_st (own_st (0) q0) q1) q2))), .second, .val (.int (1 : Int32)), .val (.int (own_P p5 (3 : Int32))), .val (.long q0), .second, .val (.ref b9), .val (.long (own_fin (own_st (own_st (own_st (0) q3) q1) q2))), .second] [(.int (1 : Int32))])) _
        refine XT.lload X10.here hx rfl (hb hby at_176) rfl ?_
        show Steps p.tables e below (T10.setTop (mkF m 178 #[.val (.long q0), .second, .val (.long q1), .second, .val (.long q2), .second, .val (.long q3), .second, .val (.int p4), .val (.int p5), .val (.int (3 : Int32)), .val (.ref b1), .val (.ref b2), .val (.long (own_fin (own_st (own_st (own_st (0) q0) q1) q2))), .second, .val (.int (1 : Int32)), .val (.int (own_P p5 (3 : Int32))), .val (.long q0), .second, .val (.ref b9), .val (.long (own_fin (own_st (own_st (own_st (0) q3) q1) q2))), .second] [(.long q0), (.int (1 : Int32))])) _
        refine XT.lload X10.here hx rfl (hb hby at_178) rfl ?_
        show Steps p.tables e below (T10.setTop (mkF m 180 #[.val (.long q0), .second, .val (.long q1), .second, .val (.long q2), .second, .val (.long q3), .second, .val (.int p4), .val (.int p5), .val (.int (3 : Int32)), .val (.ref b1), .val (.ref b2), .val (.long (own_fin (own_st (own_st (own_st (0) q0) q1) q2))), .second, .val (.int (1 : Int32)), .val (.int (own_P p5 (3 : Int32))), .val (.long q0), .second, .val (.ref b9), .val (.long (own_fin (own_st (own_st (own_st (0) q3) q1) q2))), .second] [(.long q3), (.long q0), (.int (1 : Int32))])) _
        refine XT.lcmp X10.here hx rfl (hb hby at_180) rfl ?_
        show Steps p.tables e below (T10.setTop (mkF m 181 #[.val (.long q0), .second, .val (.long q1), .second, .val (.long q2), .second, .val (.long q3), .second, .val (.int p4), .val (.int p5), .val (.int (3 : Int32)), .val (.ref b1), .val (.ref b2), .val (.long (own_fin (own_st (own_st (own_st (0) q0) q1) q2))), .second, .val (.int (1 : Int32)), .val (.int (own_P p5 (3 : Int32))), .val (.long q0), .second, .val (.ref b9), .val (.long (own_fin (own_st (own_st (own_st (0) q3) q1) q2))), .second] [(.int (XT.cmpL q0 q3)), (.int (1 : Int32))])) _
        refine XS.ifNo X10.here hx rfl (hb hby at_181) rfl (XT.ll_ne_f (own_inj3_q0 hc168_12)) ?_
        show Steps p.tables e below (T10.setTop (mkF m 184 #[.val (.long q0), .second, .val (.long q1), .second, .val (.long q2), .second, .val (.long q3), .second, .val (.int p4), .val (.int p5), .val (.int (3 : Int32)), .val (.ref b1), .val (.ref b2), .val (.long (own_fin (own_st (own_st (own_st (0) q0) q1) q2))), .second, .val (.int (1 : Int32)), .val (.int (own_P p5 (3 : Int32))), .val (.long q0), .second, .val (.ref b9), .val (.long (own_fin (own_st (own_st (own_st (0) q3) q1) q2))), .second] [(.int (1 : Int32))])) _
        refine XT.iconstV X10.here hx rfl (1 : Int32) (hb hby at_184) (by decide) ?_
        show Steps p.tables e below (T10.setTop (mkF m 185 #[.val (.long q0), .second, .val (.long q1), .second, .val (.long q2), .second, .val (.long q3), .second, .val (.int p4), .val (.int p5), .val (.int (3 : Int32)), .val (.ref b1), .val (.ref b2), .val (.long (own_fin (own_st (own_st (own_st (0) q0) q1) q2))), .second, .val (.int (1 : Int32)), .val (.int (own_P p5 (3 : Int32))), .val (.long q0), .second, .val (.ref b9), .val (.long (own_fin (own_st (own_st (own_st (0) q3) q1) q2))), .second] [(.int (1 : Int32)), (.int (1 : Int32))])) _
        refine XS.goto X10.here hx rfl (pc0 := 185) (pc' := 189) rfl (hb hby at_185) (by decide) (by decide) ?_
        show Steps p.tables e below (T10.setTop (mkF m 189 #[.val (.long q0), .second, .val (.long q1), .second, .val (.long q2), .second, .val (.long q3), .second, .val (.int p4), .val (.int p5), .val (.int (3 : Int32)), .val (.ref b1), .val (.ref b2), .val (.long (own_fin (own_st (own_st (own_st (0) q0) q1) q2))), .second, .val (.int (1 : Int32)), .val (.int (own_P p5 (3 : Int32))), .val (.long q0), .second, .val (.ref b9), .val (.long (own_fin (own_st (own_st (own_st (0) q3) q1) q2))), .second] [(.int (1 : Int32)), (.int (1 : Int32))])) _
        refine XS.icmpNo X10.here hx rfl (hb hby at_189) rfl (XT.ii_ne_f (by decide)) ?_
        show Steps p.tables e below (T10.setTop (mkF m 192 #[.val (.long q0), .second, .val (.long q1), .second, .val (.long q2), .second, .val (.long q3), .second, .val (.int p4), .val (.int p5), .val (.int (3 : Int32)), .val (.ref b1), .val (.ref b2), .val (.long (own_fin (own_st (own_st (own_st (0) q0) q1) q2))), .second, .val (.int (1 : Int32)), .val (.int (own_P p5 (3 : Int32))), .val (.long q0), .second, .val (.ref b9), .val (.long (own_fin (own_st (own_st (own_st (0) q3) q1) q2))), .second] [])) _
        refine XT.iconstV X10.here hx rfl (1 : Int32) (hb hby at_192) (by decide) ?_
        show Steps p.tables e below (T10.setTop (mkF m 193 #[.val (.long q0), .second, .val (.long q1), .second, .val (.long q2), .second, .val (.long q3), .second, .val (.int p4), .val (.int p5), .val (.int (3 : Int32)), .val (.ref b1), .val (.ref b2), .val (.long (own_fin (own_st (own_st (own_st (0) q0) q1) q2))), .second, .val (.int (1 : Int32)), .val (.int (own_P p5 (3 : Int32))), .val (.long q0), .second, .val (.ref b9), .val (.long (own_fin (own_st (own_st (own_st (0) q3) q1) q2))), .second] [(.int (1 : Int32))])) _
        refine XS.goto X10.here hx rfl (pc0 := 193) (pc' := 197) rfl (hb hby at_193) (by decide) (by decide) ?_
        show Steps p.tables e below (T10.setTop (mkF m 197 #[.val (.long q0), .second, .val (.long q1), .second, .val (.long q2), .second, .val (.long q3), .second, .val (.int p4), .val (.int p5), .val (.int (3 : Int32)), .val (.ref b1), .val (.ref b2), .val (.long (own_fin (own_st (own_st (own_st (0) q0) q1) q2))), .second, .val (.int (1 : Int32)), .val (.int (own_P p5 (3 : Int32))), .val (.long q0), .second, .val (.ref b9), .val (.long (own_fin (own_st (own_st (own_st (0) q3) q1) q2))), .second] [(.int (1 : Int32))])) _
        exact k)
      obtain ⟨fs, hr, hrun, hended, hW, hsame⟩ := X10.leave (v := some (.int (1 : Int32))) (fun h => by rw [Bd.returns] at h; cases h)
      refine ⟨_, _, pre0 _ (S13 _ ?_), hrun, hended, _, _, rfl, ?_, ⟨_, rfl⟩, hW, hsame.mono (by decide) (by decide)⟩
      · exact retN X10 hx (t := .boolean) Bd.returns (by simp) (hb hby at_197) hr
      · show Qrm0 Z q0 q1 q2 q3 p4 p5 h0 n0 _ T10.heap _
        rw [e10]
        exact ⟨rfl, N10⟩
    · have S14 : ∀ t, Steps p.tables e below (T10.setTop (mkF m 197 #[.val (.long q0), .second, .val (.long q1), .second, .val (.long q2), .second, .val (.long q3), .second, .val (.int p4), .val (.int p5), .val (.int (3 : Int32)), .val (.ref b1), .val (.ref b2), .val (.long (own_fin (own_st (own_st (own_st (0) q0) q1) q2))), .second, .val (.int (1 : Int32)), .val (.int (own_P p5 (3 : Int32))), .val (.long q0), .second, .val (.ref b9), .val (.long (own_fin (own_st (own_st (own_st (0) q3) q1) q2))), .second] [(.int (1 : Int32))])) t → Steps p.tables e below (s₁.setTop (mkF m 0 #[.val (.long q0), .second, .val (.long q1), .second, .val (.long q2), .second, .val (.long q3), .second, .val (.int p4), .val (.int p5), .unset, .unset, .unset, .unset, .unset, .unset, .unset, .unset, .unset, .unset, .unset, .unset] [])) t := fun t k => S11 t (by
        show Steps p.tables e below (T10.setTop (mkF m 168 #[.val (.long q0), .second, .val (.long q1), .second, .val (.long q2), .second, .val (.long q3), .second, .val (.int p4), .val (.int p5), .val (.int (3 : Int32)), .val (.ref b1), .val (.ref b2), .val (.long (own_fin (own_st (own_st (own_st (0) q0) q1) q2))), .second, .val (.int (1 : Int32)), .val (.int (own_P p5 (3 : Int32))), .val (.long q0), .second, .val (.ref b9), .val (.long (own_fin (own_st (own_st (own_st (0) q3) q1) q2))), .second] [(.int (XT.cmpL (own_fin (own_st (own_st (own_st (0) q0) q1) q2)) (own_fin (own_st (own_st (own_st (0) q3) q1) q2))))])) _
        refine XS.ifYes X10.here hx rfl (pc0 := 168) (pc' := 175) rfl (hb hby at_168) rfl (XT.ll_ne_t hc168_12) (by decide) (by decide) ?_
        show Steps p.tables e below (T10.setTop (mkF m 175 #[.val (.long q0), .second, .val (.long q1), .second, .val (.long q2), .second, .val (.long q3), .second, .val (.int p4), .val (.int p5), .val (.int (3 : Int32)), .val (.ref b1), .val (.ref b2), .val (.long (own_fin (own_st (own_st (own_st (0) q0) q1) q2))), .second, .val (.int (1 : Int32)), .val (.int (own_P p5 (3 : Int32))), .val (.long q0), .second, .val (.ref b9), .val (.long (own_fin (own_st (own_st (own_st (0) q3) q1) q2))), .second] [])) _
        refine XT.iconstV X10.here hx rfl (0 : Int32) (hb hby at_175) (by decide) ?_
        show Steps p.tables e below (T10.setTop (mkF m 176 #[.val (.long q0), .second, .val (.long q1), .second, .val (.long q2), .second, .val (.long q3), .second, .val (.int p4), .val (.int p5), .val (.int (3 : Int32)), .val (.ref b1), .val (.ref b2), .val (.long (own_fin (own_st (own_st (own_st (0) q0) q1) q2))), .second, .val (.int (1 : Int32)), .val (.int (own_P p5 (3 : Int32))), .val (.long q0), .second, .val (.ref b9), .val (.long (own_fin (own_st (own_st (own_st (0) q3) q1) q2))), .second] [(.int (0 : Int32))])) _
        refine XT.lload X10.here hx rfl (hb hby at_176) rfl ?_
        show Steps p.tables e below (T10.setTop (mkF m 178 #[.val (.long q0), .second, .val (.long q1), .second, .val (.long q2), .second, .val (.long q3), .second, .val (.int p4), .val (.int p5), .val (.int (3 : Int32)), .val (.ref b1), .val (.ref b2), .val (.long (own_fin (own_st (own_st (own_st (0) q0) q1) q2))), .second, .val (.int (1 : Int32)), .val (.int (own_P p5 (3 : Int32))), .val (.long q0), .second, .val (.ref b9), .val (.long (own_fin (own_st (own_st (own_st (0) q3) q1) q2))), .second] [(.long q0), (.int (0 : Int32))])) _
        refine XT.lload X10.here hx rfl (hb hby at_178) rfl ?_
        show Steps p.tables e below (T10.setTop (mkF m 180 #[.val (.long q0), .second, .val (.long q1), .second, .val (.long q2), .second, .val (.long q3), .second, .val (.int p4), .val (.int p5), .val (.int (3 : Int32)), .val (.ref b1), .val (.ref b2), .val (.long (own_fin (own_st (own_st (own_st (0) q0) q1) q2))), .second, .val (.int (1 : Int32)), .val (.int (own_P p5 (3 : Int32))), .val (.long q0), .second, .val (.ref b9), .val (.long (own_fin (own_st (own_st (own_st (0) q3) q1) q2))), .second] [(.long q3), (.long q0), (.int (0 : Int32))])) _
        refine XT.lcmp X10.here hx rfl (hb hby at_180) rfl ?_
        show Steps p.tables e below (T10.setTop (mkF m 181 #[.val (.long q0), .second, .val (.long q1), .second, .val (.long q2), .second, .val (.long q3), .second, .val (.int p4), .val (.int p5), .val (.int (3 : Int32)), .val (.ref b1), .val (.ref b2), .val (.long (own_fin (own_st (own_st (own_st (0) q0) q1) q2))), .second, .val (.int (1 : Int32)), .val (.int (own_P p5 (3 : Int32))), .val (.long q0), .second, .val (.ref b9), .val (.long (own_fin (own_st (own_st (own_st (0) q3) q1) q2))), .second] [(.int (XT.cmpL q0 q3)), (.int (0 : Int32))])) _
        refine XS.ifYes X10.here hx rfl (pc0 := 181) (pc' := 188) rfl (hb hby at_181) rfl (XT.ll_ne_t (fun q => hc168_12 (by rw [q]))) (by decide) (by decide) ?_
        show Steps p.tables e below (T10.setTop (mkF m 188 #[.val (.long q0), .second, .val (.long q1), .second, .val (.long q2), .second, .val (.long q3), .second, .val (.int p4), .val (.int p5), .val (.int (3 : Int32)), .val (.ref b1), .val (.ref b2), .val (.long (own_fin (own_st (own_st (own_st (0) q0) q1) q2))), .second, .val (.int (1 : Int32)), .val (.int (own_P p5 (3 : Int32))), .val (.long q0), .second, .val (.ref b9), .val (.long (own_fin (own_st (own_st (own_st (0) q3) q1) q2))), .second] [(.int (0 : Int32))])) _
        refine XT.iconstV X10.here hx rfl (0 : Int32) (hb hby at_188) (by decide) ?_
        show Steps p.tables e below (T10.setTop (mkF m 189 #[.val (.long q0), .second, .val (.long q1), .second, .val (.long q2), .second, .val (.long q3), .second, .val (.int p4), .val (.int p5), .val (.int (3 : Int32)), .val (.ref b1), .val (.ref b2), .val (.long (own_fin (own_st (own_st (own_st (0) q0) q1) q2))), .second, .val (.int (1 : Int32)), .val (.int (own_P p5 (3 : Int32))), .val (.long q0), .second, .val (.ref b9), .val (.long (own_fin (own_st (own_st (own_st (0) q3) q1) q2))), .second] [(.int (0 : Int32)), (.int (0 : Int32))])) _
        refine XS.icmpNo X10.here hx rfl (hb hby at_189) rfl (XT.ii_ne_f (by decide)) ?_
        show Steps p.tables e below (T10.setTop (mkF m 192 #[.val (.long q0), .second, .val (.long q1), .second, .val (.long q2), .second, .val (.long q3), .second, .val (.int p4), .val (.int p5), .val (.int (3 : Int32)), .val (.ref b1), .val (.ref b2), .val (.long (own_fin (own_st (own_st (own_st (0) q0) q1) q2))), .second, .val (.int (1 : Int32)), .val (.int (own_P p5 (3 : Int32))), .val (.long q0), .second, .val (.ref b9), .val (.long (own_fin (own_st (own_st (own_st (0) q3) q1) q2))), .second] [])) _
        refine XT.iconstV X10.here hx rfl (1 : Int32) (hb hby at_192) (by decide) ?_
        show Steps p.tables e below (T10.setTop (mkF m 193 #[.val (.long q0), .second, .val (.long q1), .second, .val (.long q2), .second, .val (.long q3), .second, .val (.int p4), .val (.int p5), .val (.int (3 : Int32)), .val (.ref b1), .val (.ref b2), .val (.long (own_fin (own_st (own_st (own_st (0) q0) q1) q2))), .second, .val (.int (1 : Int32)), .val (.int (own_P p5 (3 : Int32))), .val (.long q0), .second, .val (.ref b9), .val (.long (own_fin (own_st (own_st (own_st (0) q3) q1) q2))), .second] [(.int (1 : Int32))])) _
        refine XS.goto X10.here hx rfl (pc0 := 193) (pc' := 197) rfl (hb hby at_193) (by decide) (by decide) ?_
        show Steps p.tables e below (T10.setTop (mkF m 197 #[.val (.long q0), .second, .val (.long q1), .second, .val (.long q2), .second, .val (.long q3), .second, .val (.int p4), .val (.int p5), .val (.int (3 : Int32)), .val (.ref b1), .val (.ref b2), .val (.long (own_fin (own_st (own_st (own_st (0) q0) q1) q2))), .second, .val (.int (1 : Int32)), .val (.int (own_P p5 (3 : Int32))), .val (.long q0), .second, .val (.ref b9), .val (.long (own_fin (own_st (own_st (own_st (0) q3) q1) q2))), .second] [(.int (1 : Int32))])) _
        exact k)
      obtain ⟨fs, hr, hrun, hended, hW, hsame⟩ := X10.leave (v := some (.int (1 : Int32))) (fun h => by rw [Bd.returns] at h; cases h)
      refine ⟨_, _, pre0 _ (S14 _ ?_), hrun, hended, _, _, rfl, ?_, ⟨_, rfl⟩, hW, hsame.mono (by decide) (by decide)⟩
      · exact retN X10 hx (t := .boolean) Bd.returns (by simp) (hb hby at_197) hr
      · show Qrm0 Z q0 q1 q2 q3 p4 p5 h0 n0 _ T10.heap _
        rw [e10]
        exact ⟨rfl, N10⟩
  · have S15 : ∀ t, Steps p.tables e below (T6.setTop (mkF m 97 #[.val (.long q0), .second, .val (.long q1), .second, .val (.long q2), .second, .val (.long q3), .second, .val (.int p4), .val (.int p5), .val (.int (3 : Int32)), .val (.ref b1), .val (.ref b2), .val (.long (own_fin (own_st (own_st (own_st (0) q0) q1) q2))), .second, .val (.int (1 : Int32)), .val (.int (own_P p5 (3 : Int32))), .unset, .unset, .unset, .unset, .unset] [(.int (1 : Int32)), (.int (own_P p5 (3 : Int32)))])) t → Steps p.tables e below (s₁.setTop (mkF m 0 #[.val (.long q0), .second, .val (.long q1), .second, .val (.long q2), .second, .val (.long q3), .second, .val (.int p4), .val (.int p5), .unset, .unset, .unset, .unset, .unset, .unset, .unset, .unset, .unset, .unset, .unset, .unset] [])) t := fun t k => S7 t (by
      show Steps p.tables e below (T6.setTop (mkF m 87 #[.val (.long q0), .second, .val (.long q1), .second, .val (.long q2), .second, .val (.long q3), .second, .val (.int p4), .val (.int p5), .val (.int (3 : Int32)), .val (.ref b1), .val (.ref b2), .val (.long (own_fin (own_st (own_st (own_st (0) q0) q1) q2))), .second, .val (.int (1 : Int32)), .val (.int (own_P p5 (3 : Int32))), .unset, .unset, .unset, .unset, .unset] [(.int (own_P p5 (3 : Int32)))])) _
      refine XS.ifYes X6.here hx rfl (pc0 := 87) (pc' := 94) rfl (hb hby at_87) rfl (XT.i0_ne_t hc87_8) (by decide) (by decide) ?_
      show Steps p.tables e below (T6.setTop (mkF m 94 #[.val (.long q0), .second, .val (.long q1), .second, .val (.long q2), .second, .val (.long q3), .second, .val (.int p4), .val (.int p5), .val (.int (3 : Int32)), .val (.ref b1), .val (.ref b2), .val (.long (own_fin (own_st (own_st (own_st (0) q0) q1) q2))), .second, .val (.int (1 : Int32)), .val (.int (own_P p5 (3 : Int32))), .unset, .unset, .unset, .unset, .unset] [])) _
      refine XS.iload X6.here hx rfl (hb hby at_94) rfl ?_
      show Steps p.tables e below (T6.setTop (mkF m 96 #[.val (.long q0), .second, .val (.long q1), .second, .val (.long q2), .second, .val (.long q3), .second, .val (.int p4), .val (.int p5), .val (.int (3 : Int32)), .val (.ref b1), .val (.ref b2), .val (.long (own_fin (own_st (own_st (own_st (0) q0) q1) q2))), .second, .val (.int (1 : Int32)), .val (.int (own_P p5 (3 : Int32))), .unset, .unset, .unset, .unset, .unset] [(.int (own_P p5 (3 : Int32)))])) _
      refine XT.iconstV X6.here hx rfl (1 : Int32) (hb hby at_96) (by decide) ?_
      show Steps p.tables e below (T6.setTop (mkF m 97 #[.val (.long q0), .second, .val (.long q1), .second, .val (.long q2), .second, .val (.long q3), .second, .val (.int p4), .val (.int p5), .val (.int (3 : Int32)), .val (.ref b1), .val (.ref b2), .val (.long (own_fin (own_st (own_st (own_st (0) q0) q1) q2))), .second, .val (.int (1 : Int32)), .val (.int (own_P p5 (3 : Int32))), .unset, .unset, .unset, .unset, .unset] [(.int (1 : Int32)), (.int (own_P p5 (3 : Int32)))])) _
      exact k)
    by_cases hc97_16 : (own_P p5 (3 : Int32)) = (1 : Int32)
    · obtain ⟨_, _, ⟨T17, L17, k17, n17⟩, -, X17, ⟨Lc17, hQ17, l17, y17, z17⟩, st17⟩ := Jvm.LawKit.callS X6 hx (y := (⟨"com/example/bare_refinement/barerefinement/exploration/StateSpaceHashPinLaw", "make", "(IJJJ)[J"⟩ : MethodName)) hown (mvT hZ (hw _ (List.mem_of_getElem? (i := 0) rfl))) (mvT hZ (hw _ (List.mem_of_getElem? (i := 1) rfl))) (mvT hZ (hw _ (List.mem_of_getElem? (i := 2) rfl))) (mvT hZ (hw _ (List.mem_of_getElem? (i := 3) rfl))) (by decide) (backOf (W := 0) (rmMake3 l Z av0 hw [] q0 q3 q2 T2.heap n0 Z2) hZ (hw _ (List.mem_of_getElem? (i := 3) rfl)) (hw _ (List.mem_of_getElem? (i := 2) rfl)) (by decide) (by decide)) (g := (mkF m 146 #[.val (.long q0), .second, .val (.long q1), .second, .val (.long q2), .second, .val (.long q3), .second, .val (.int p4), .val (.int p5), .val (.int (3 : Int32)), .val (.ref b1), .val (.ref b2), .val (.long (own_fin (own_st (own_st (own_st (0) q0) q1) q2))), .second, .val (.int (1 : Int32)), .val (.int (own_P p5 (3 : Int32))), .val (.long q1), .second, .unset, .unset, .unset] [(.long q2), (.long q3), (.long q0), (.int (3 : Int32))])) rfl (by rw [hml]; rfl) (argsL := [(.int (3 : Int32)), (.long q0), (.long q3), (.long q2)]) (rest := []) (lenOf pd__IJJJ_J rfl) rfl (by show 2 * 0 + _ ≤ _; exact Nat.le_of_eq rfl) (hb hby at_146) (fun _ _ => ⟨rfl, e6, (by decide : 2 + 1 ≤ _), (by decide : 6 + 3 ≤ _)⟩)
      dsimp only [Pt.U, Pt.locs, Pt.cells, Pt.slots] at X17 l17 y17 z17 st17 hQ17
      subst l17 y17 z17
      obtain ⟨b17, k17', rfl, N17q, ge17, K17, V17⟩ := hQ17
      have N17 := Fr.app N6 N17q
      have e17 : T17.heap = T17.heap := rfl
      have ne_b1_b17 : b1 ≠ b17 := Nat.ne_of_lt (Nat.lt_of_lt_of_le f3.lt ge17)
      have ne_b2_b17 : b2 ≠ b17 := Nat.ne_of_lt (Nat.lt_of_lt_of_le V2.lt ge17)
      have Z17 : n0 ≤ T17.heap.size := Nat.le_trans Z2 K17.1
      obtain ⟨_, _, ⟨T18, L18, k18, n18⟩, -, X18, ⟨Lc18, hQ18, l18, y18, z18⟩, st18⟩ := Jvm.LawKit.callS X17 hx (y := (⟨"com/example/bare_refinement/barerefinement/exploration/StateSpace", "hash", "([J)J"⟩ : MethodName)) hown (mvT hZ (hw _ (List.mem_of_getElem? (i := 5) rfl))) (mvT hZ (hw _ (List.mem_of_getElem? (i := 6) rfl))) (mvT hZ (hw _ (List.mem_of_getElem? (i := 7) rfl))) (mvT hZ (hw _ (List.mem_of_getElem? (i := 8) rfl))) (by decide) (backOf (W := 0) (rmHash3 l Z av0 hw [] b17 k17' q0 q3 q2 T17.heap n0 Z17 V17) hZ (hw _ (List.mem_of_getElem? (i := 8) rfl)) (hw _ (List.mem_of_getElem? (i := 7) rfl)) (by decide) (by decide)) (g := (mkF m 153 #[.val (.long q0), .second, .val (.long q1), .second, .val (.long q2), .second, .val (.long q3), .second, .val (.int p4), .val (.int p5), .val (.int (3 : Int32)), .val (.ref b1), .val (.ref b2), .val (.long (own_fin (own_st (own_st (own_st (0) q0) q1) q2))), .second, .val (.int (1 : Int32)), .val (.int (own_P p5 (3 : Int32))), .val (.long q1), .second, .val (.ref b17), .unset, .unset] [(.ref b17)])) rfl (by rw [hml]; rfl) (argsL := [(.ref b17)]) (rest := []) (lenOf pd__J_J rfl) rfl (by show 2 * 0 + _ ≤ _; exact Nat.le_of_eq rfl) (hb hby at_153) (fun _ _ => ⟨rfl, e17, (by decide : 3 + 0 ≤ _), (by decide : 9 + 0 ≤ _)⟩)
      dsimp only [Pt.U, Pt.locs, Pt.cells, Pt.slots] at X18 l18 y18 z18 st18 hQ18
      subst l18 y18 z18
      obtain ⟨rfl, N18q, hh18⟩ := hQ18
      have N18 := Fr.app N17 N18q
      have e18 : T18.heap = T17.heap := hh18
      have S19 : ∀ t, Steps p.tables e below (T18.setTop (mkF m 168 #[.val (.long q0), .second, .val (.long q1), .second, .val (.long q2), .second, .val (.long q3), .second, .val (.int p4), .val (.int p5), .val (.int (3 : Int32)), .val (.ref b1), .val (.ref b2), .val (.long (own_fin (own_st (own_st (own_st (0) q0) q1) q2))), .second, .val (.int (1 : Int32)), .val (.int (own_P p5 (3 : Int32))), .val (.long q1), .second, .val (.ref b17), .val (.long (own_fin (own_st (own_st (own_st (0) q0) q3) q2))), .second] [(.int (XT.cmpL (own_fin (own_st (own_st (own_st (0) q0) q1) q2)) (own_fin (own_st (own_st (own_st (0) q0) q3) q2))))])) t → Steps p.tables e below (s₁.setTop (mkF m 0 #[.val (.long q0), .second, .val (.long q1), .second, .val (.long q2), .second, .val (.long q3), .second, .val (.int p4), .val (.int p5), .unset, .unset, .unset, .unset, .unset, .unset, .unset, .unset, .unset, .unset, .unset, .unset] [])) t := fun t k => S15 t (by
        show Steps p.tables e below (T6.setTop (mkF m 97 #[.val (.long q0), .second, .val (.long q1), .second, .val (.long q2), .second, .val (.long q3), .second, .val (.int p4), .val (.int p5), .val (.int (3 : Int32)), .val (.ref b1), .val (.ref b2), .val (.long (own_fin (own_st (own_st (own_st (0) q0) q1) q2))), .second, .val (.int (1 : Int32)), .val (.int (own_P p5 (3 : Int32))), .unset, .unset, .unset, .unset, .unset] [(.int (1 : Int32)), (.int (own_P p5 (3 : Int32)))])) _
        refine XS.icmpNo X6.here hx rfl (hb hby at_97) rfl (XT.ii_ne_f hc97_16) ?_
        show Steps p.tables e below (T6.setTop (mkF m 100 #[.val (.long q0), .second, .val (.long q1), .second, .val (.long q2), .second, .val (.long q3), .second, .val (.int p4), .val (.int p5), .val (.int (3 : Int32)), .val (.ref b1), .val (.ref b2), .val (.long (own_fin (own_st (own_st (own_st (0) q0) q1) q2))), .second, .val (.int (1 : Int32)), .val (.int (own_P p5 (3 : Int32))), .unset, .unset, .unset, .unset, .unset] [])) _
        refine XT.lloadN X6.here hx rfl (hb hby at_100) rfl ?_
        show Steps p.tables e below (T6.setTop (mkF m 101 #[.val (.long q0), .second, .val (.long q1), .second, .val (.long q2), .second, .val (.long q3), .second, .val (.int p4), .val (.int p5), .val (.int (3 : Int32)), .val (.ref b1), .val (.ref b2), .val (.long (own_fin (own_st (own_st (own_st (0) q0) q1) q2))), .second, .val (.int (1 : Int32)), .val (.int (own_P p5 (3 : Int32))), .unset, .unset, .unset, .unset, .unset] [(.long q1)])) _
        refine XS.goto X6.here hx rfl (pc0 := 101) (pc' := 106) rfl (hb hby at_101) (by decide) (by decide) ?_
        show Steps p.tables e below (T6.setTop (mkF m 106 #[.val (.long q0), .second, .val (.long q1), .second, .val (.long q2), .second, .val (.long q3), .second, .val (.int p4), .val (.int p5), .val (.int (3 : Int32)), .val (.ref b1), .val (.ref b2), .val (.long (own_fin (own_st (own_st (own_st (0) q0) q1) q2))), .second, .val (.int (1 : Int32)), .val (.int (own_P p5 (3 : Int32))), .unset, .unset, .unset, .unset, .unset] [(.long q1)])) _
        refine XT.lstore X6.here hx rfl (hb hby at_106) rfl (l' := #[.val (.long q0), .second, .val (.long q1), .second, .val (.long q2), .second, .val (.long q3), .second, .val (.int p4), .val (.int p5), .val (.int (3 : Int32)), .val (.ref b1), .val (.ref b2), .val (.long (own_fin (own_st (own_st (own_st (0) q0) q1) q2))), .second, .val (.int (1 : Int32)), .val (.int (own_P p5 (3 : Int32))), .val (.long q1), .second, .unset, .unset, .unset]) rfl ?_
        show Steps p.tables e below (T6.setTop (mkF m 108 #[.val (.long q0), .second, .val (.long q1), .second, .val (.long q2), .second, .val (.long q3), .second, .val (.int p4), .val (.int p5), .val (.int (3 : Int32)), .val (.ref b1), .val (.ref b2), .val (.long (own_fin (own_st (own_st (own_st (0) q0) q1) q2))), .second, .val (.int (1 : Int32)), .val (.int (own_P p5 (3 : Int32))), .val (.long q1), .second, .unset, .unset, .unset] [])) _
        refine XS.iload X6.here hx rfl (hb hby at_108) rfl ?_
        show Steps p.tables e below (T6.setTop (mkF m 110 #[.val (.long q0), .second, .val (.long q1), .second, .val (.long q2), .second, .val (.long q3), .second, .val (.int p4), .val (.int p5), .val (.int (3 : Int32)), .val (.ref b1), .val (.ref b2), .val (.long (own_fin (own_st (own_st (own_st (0) q0) q1) q2))), .second, .val (.int (1 : Int32)), .val (.int (own_P p5 (3 : Int32))), .val (.long q1), .second, .unset, .unset, .unset] [(.int (3 : Int32))])) _
        refine XS.iload X6.here hx rfl (hb hby at_110) rfl ?_
        show Steps p.tables e below (T6.setTop (mkF m 112 #[.val (.long q0), .second, .val (.long q1), .second, .val (.long q2), .second, .val (.long q3), .second, .val (.int p4), .val (.int p5), .val (.int (3 : Int32)), .val (.ref b1), .val (.ref b2), .val (.long (own_fin (own_st (own_st (own_st (0) q0) q1) q2))), .second, .val (.int (1 : Int32)), .val (.int (own_P p5 (3 : Int32))), .val (.long q1), .second, .unset, .unset, .unset] [(.int (own_P p5 (3 : Int32))), (.int (3 : Int32))])) _
        refine XS.ifYes X6.here hx rfl (pc0 := 112) (pc' := 120) rfl (hb hby at_112) rfl (XT.i0_ne_t hc87_8) (by decide) (by decide) ?_
        show Steps p.tables e below (T6.setTop (mkF m 120 #[.val (.long q0), .second, .val (.long q1), .second, .val (.long q2), .second, .val (.long q3), .second, .val (.int p4), .val (.int p5), .val (.int (3 : Int32)), .val (.ref b1), .val (.ref b2), .val (.long (own_fin (own_st (own_st (own_st (0) q0) q1) q2))), .second, .val (.int (1 : Int32)), .val (.int (own_P p5 (3 : Int32))), .val (.long q1), .second, .unset, .unset, .unset] [(.int (3 : Int32))])) _
        refine XT.lloadN X6.here hx rfl (hb hby at_120) rfl ?_
        show Steps p.tables e below (T6.setTop (mkF m 121 #[.val (.long q0), .second, .val (.long q1), .second, .val (.long q2), .second, .val (.long q3), .second, .val (.int p4), .val (.int p5), .val (.int (3 : Int32)), .val (.ref b1), .val (.ref b2), .val (.long (own_fin (own_st (own_st (own_st (0) q0) q1) q2))), .second, .val (.int (1 : Int32)), .val (.int (own_P p5 (3 : Int32))), .val (.long q1), .second, .unset, .unset, .unset] [(.long q0), (.int (3 : Int32))])) _
        refine XS.iload X6.here hx rfl (hb hby at_121) rfl ?_
        show Steps p.tables e below (T6.setTop (mkF m 123 #[.val (.long q0), .second, .val (.long q1), .second, .val (.long q2), .second, .val (.long q3), .second, .val (.int p4), .val (.int p5), .val (.int (3 : Int32)), .val (.ref b1), .val (.ref b2), .val (.long (own_fin (own_st (own_st (own_st (0) q0) q1) q2))), .second, .val (.int (1 : Int32)), .val (.int (own_P p5 (3 : Int32))), .val (.long q1), .second, .unset, .unset, .unset] [(.int (own_P p5 (3 : Int32))), (.long q0), (.int (3 : Int32))])) _
        refine XT.iconstV X6.here hx rfl (1 : Int32) (hb hby at_123) (by decide) ?_
        show Steps p.tables e below (T6.setTop (mkF m 124 #[.val (.long q0), .second, .val (.long q1), .second, .val (.long q2), .second, .val (.long q3), .second, .val (.int p4), .val (.int p5), .val (.int (3 : Int32)), .val (.ref b1), .val (.ref b2), .val (.long (own_fin (own_st (own_st (own_st (0) q0) q1) q2))), .second, .val (.int (1 : Int32)), .val (.int (own_P p5 (3 : Int32))), .val (.long q1), .second, .unset, .unset, .unset] [(.int (1 : Int32)), (.int (own_P p5 (3 : Int32))), (.long q0), (.int (3 : Int32))])) _
        refine XS.icmpNo X6.here hx rfl (hb hby at_124) rfl (XT.ii_ne_f hc97_16) ?_
        show Steps p.tables e below (T6.setTop (mkF m 127 #[.val (.long q0), .second, .val (.long q1), .second, .val (.long q2), .second, .val (.long q3), .second, .val (.int p4), .val (.int p5), .val (.int (3 : Int32)), .val (.ref b1), .val (.ref b2), .val (.long (own_fin (own_st (own_st (own_st (0) q0) q1) q2))), .second, .val (.int (1 : Int32)), .val (.int (own_P p5 (3 : Int32))), .val (.long q1), .second, .unset, .unset, .unset] [(.long q0), (.int (3 : Int32))])) _
        refine XT.lload X6.here hx rfl (hb hby at_127) rfl ?_
        show Steps p.tables e below (T6.setTop (mkF m 129 #[.val (.long q0), .second, .val (.long q1), .second, .val (.long q2), .second, .val (.long q3), .second, .val (.int p4), .val (.int p5), .val (.int (3 : Int32)), .val (.ref b1), .val (.ref b2), .val (.long (own_fin (own_st (own_st (own_st (0) q0) q1) q2))), .second, .val (.int (1 : Int32)), .val (.int (own_P p5 (3 : Int32))), .val (.long q1), .second, .unset, .unset, .unset] [(.long q3), (.long q0), (.int (3 : Int32))])) _
        refine XS.goto X6.here hx rfl (pc0 := 129) (pc' := 133) rfl (hb hby at_129) (by decide) (by decide) ?_
        show Steps p.tables e below (T6.setTop (mkF m 133 #[.val (.long q0), .second, .val (.long q1), .second, .val (.long q2), .second, .val (.long q3), .second, .val (.int p4), .val (.int p5), .val (.int (3 : Int32)), .val (.ref b1), .val (.ref b2), .val (.long (own_fin (own_st (own_st (own_st (0) q0) q1) q2))), .second, .val (.int (1 : Int32)), .val (.int (own_P p5 (3 : Int32))), .val (.long q1), .second, .unset, .unset, .unset] [(.long q3), (.long q0), (.int (3 : Int32))])) _
        refine XS.iload X6.here hx rfl (hb hby at_133) rfl ?_
        show Steps p.tables e below (T6.setTop (mkF m 135 #[.val (.long q0), .second, .val (.long q1), .second, .val (.long q2), .second, .val (.long q3), .second, .val (.int p4), .val (.int p5), .val (.int (3 : Int32)), .val (.ref b1), .val (.ref b2), .val (.long (own_fin (own_st (own_st (own_st (0) q0) q1) q2))), .second, .val (.int (1 : Int32)), .val (.int (own_P p5 (3 : Int32))), .val (.long q1), .second, .unset, .unset, .unset] [(.int (own_P p5 (3 : Int32))), (.long q3), (.long q0), (.int (3 : Int32))])) _
        refine XT.iconstV X6.here hx rfl (2 : Int32) (hb hby at_135) (by decide) ?_
        show Steps p.tables e below (T6.setTop (mkF m 136 #[.val (.long q0), .second, .val (.long q1), .second, .val (.long q2), .second, .val (.long q3), .second, .val (.int p4), .val (.int p5), .val (.int (3 : Int32)), .val (.ref b1), .val (.ref b2), .val (.long (own_fin (own_st (own_st (own_st (0) q0) q1) q2))), .second, .val (.int (1 : Int32)), .val (.int (own_P p5 (3 : Int32))), .val (.long q1), .second, .unset, .unset, .unset] [(.int (2 : Int32)), (.int (own_P p5 (3 : Int32))), (.long q3), (.long q0), (.int (3 : Int32))])) _
        refine XS.icmpYes X6.here hx rfl (pc0 := 136) (pc' := 144) rfl (hb hby at_136) rfl (XT.ii_ne_t (by rw [hc97_16]; decide)) (by decide) (by decide) ?_
        show Steps p.tables e below (T6.setTop (mkF m 144 #[.val (.long q0), .second, .val (.long q1), .second, .val (.long q2), .second, .val (.long q3), .second, .val (.int p4), .val (.int p5), .val (.int (3 : Int32)), .val (.ref b1), .val (.ref b2), .val (.long (own_fin (own_st (own_st (own_st (0) q0) q1) q2))), .second, .val (.int (1 : Int32)), .val (.int (own_P p5 (3 : Int32))), .val (.long q1), .second, .unset, .unset, .unset] [(.long q3), (.long q0), (.int (3 : Int32))])) _
        refine XT.lload X6.here hx rfl (hb hby at_144) rfl ?_
        show Steps p.tables e below (T6.setTop (mkF m 146 #[.val (.long q0), .second, .val (.long q1), .second, .val (.long q2), .second, .val (.long q3), .second, .val (.int p4), .val (.int p5), .val (.int (3 : Int32)), .val (.ref b1), .val (.ref b2), .val (.long (own_fin (own_st (own_st (own_st (0) q0) q1) q2))), .second, .val (.int (1 : Int32)), .val (.int (own_P p5 (3 : Int32))), .val (.long q1), .second, .unset, .unset, .unset] [(.long q2), (.long q3), (.long q0), (.int (3 : Int32))])) _
        refine st17 _ ?_
        show Steps p.tables e below (T17.setTop (mkF m 149 #[.val (.long q0), .second, .val (.long q1), .second, .val (.long q2), .second, .val (.long q3), .second, .val (.int p4), .val (.int p5), .val (.int (3 : Int32)), .val (.ref b1), .val (.ref b2), .val (.long (own_fin (own_st (own_st (own_st (0) q0) q1) q2))), .second, .val (.int (1 : Int32)), .val (.int (own_P p5 (3 : Int32))), .val (.long q1), .second, .unset, .unset, .unset] [(.ref b17)])) _
        refine XS.astore X17.here hx rfl (hb hby at_149) rfl rfl (l' := #[.val (.long q0), .second, .val (.long q1), .second, .val (.long q2), .second, .val (.long q3), .second, .val (.int p4), .val (.int p5), .val (.int (3 : Int32)), .val (.ref b1), .val (.ref b2), .val (.long (own_fin (own_st (own_st (own_st (0) q0) q1) q2))), .second, .val (.int (1 : Int32)), .val (.int (own_P p5 (3 : Int32))), .val (.long q1), .second, .val (.ref b17), .unset, .unset]) rfl ?_
        show Steps p.tables e below (T17.setTop (mkF m 151 #[.val (.long q0), .second, .val (.long q1), .second, .val (.long q2), .second, .val (.long q3), .second, .val (.int p4), .val (.int p5), .val (.int (3 : Int32)), .val (.ref b1), .val (.ref b2), .val (.long (own_fin (own_st (own_st (own_st (0) q0) q1) q2))), .second, .val (.int (1 : Int32)), .val (.int (own_P p5 (3 : Int32))), .val (.long q1), .second, .val (.ref b17), .unset, .unset] [])) _
        refine XS.aload X17.here hx rfl (hb hby at_151) rfl rfl ?_
        show Steps p.tables e below (T17.setTop (mkF m 153 #[.val (.long q0), .second, .val (.long q1), .second, .val (.long q2), .second, .val (.long q3), .second, .val (.int p4), .val (.int p5), .val (.int (3 : Int32)), .val (.ref b1), .val (.ref b2), .val (.long (own_fin (own_st (own_st (own_st (0) q0) q1) q2))), .second, .val (.int (1 : Int32)), .val (.int (own_P p5 (3 : Int32))), .val (.long q1), .second, .val (.ref b17), .unset, .unset] [(.ref b17)])) _
        refine st18 _ ?_
        show Steps p.tables e below (T18.setTop (mkF m 156 #[.val (.long q0), .second, .val (.long q1), .second, .val (.long q2), .second, .val (.long q3), .second, .val (.int p4), .val (.int p5), .val (.int (3 : Int32)), .val (.ref b1), .val (.ref b2), .val (.long (own_fin (own_st (own_st (own_st (0) q0) q1) q2))), .second, .val (.int (1 : Int32)), .val (.int (own_P p5 (3 : Int32))), .val (.long q1), .second, .val (.ref b17), .unset, .unset] [(.long (own_fin (own_st (own_st (own_st (0) q0) q3) q2)))])) _
        refine XT.lstore X18.here hx rfl (hb hby at_156) rfl (l' := #[.val (.long q0), .second, .val (.long q1), .second, .val (.long q2), .second, .val (.long q3), .second, .val (.int p4), .val (.int p5), .val (.int (3 : Int32)), .val (.ref b1), .val (.ref b2), .val (.long (own_fin (own_st (own_st (own_st (0) q0) q1) q2))), .second, .val (.int (1 : Int32)), .val (.int (own_P p5 (3 : Int32))), .val (.long q1), .second, .val (.ref b17), .val (.long (own_fin (own_st (own_st (own_st (0) q0) q3) q2))), .second]) rfl ?_
        show Steps p.tables e below (T18.setTop (mkF m 158 #[.val (.long q0), .second, .val (.long q1), .second, .val (.long q2), .second, .val (.long q3), .second, .val (.int p4), .val (.int p5), .val (.int (3 : Int32)), .val (.ref b1), .val (.ref b2), .val (.long (own_fin (own_st (own_st (own_st (0) q0) q1) q2))), .second, .val (.int (1 : Int32)), .val (.int (own_P p5 (3 : Int32))), .val (.long q1), .second, .val (.ref b17), .val (.long (own_fin (own_st (own_st (own_st (0) q0) q3) q2))), .second] [])) _
        refine XS.iload X18.here hx rfl (hb hby at_158) rfl ?_
        show Steps p.tables e below (T18.setTop (mkF m 160 #[.val (.long q0), .second, .val (.long q1), .second, .val (.long q2), .second, .val (.long q3), .second, .val (.int p4), .val (.int p5), .val (.int (3 : Int32)), .val (.ref b1), .val (.ref b2), .val (.long (own_fin (own_st (own_st (own_st (0) q0) q1) q2))), .second, .val (.int (1 : Int32)), .val (.int (own_P p5 (3 : Int32))), .val (.long q1), .second, .val (.ref b17), .val (.long (own_fin (own_st (own_st (own_st (0) q0) q3) q2))), .second] [(.int (1 : Int32))])) _
        refine XS.ifNo X18.here hx rfl (hb hby at_160) rfl (XT.i0_eq_f (by decide)) ?_
        show Steps p.tables e below (T18.setTop (mkF m 163 #[.val (.long q0), .second, .val (.long q1), .second, .val (.long q2), .second, .val (.long q3), .second, .val (.int p4), .val (.int p5), .val (.int (3 : Int32)), .val (.ref b1), .val (.ref b2), .val (.long (own_fin (own_st (own_st (own_st (0) q0) q1) q2))), .second, .val (.int (1 : Int32)), .val (.int (own_P p5 (3 : Int32))), .val (.long q1), .second, .val (.ref b17), .val (.long (own_fin (own_st (own_st (own_st (0) q0) q3) q2))), .second] [])) _
        refine XT.lload X18.here hx rfl (hb hby at_163) rfl ?_
        show Steps p.tables e below (T18.setTop (mkF m 165 #[.val (.long q0), .second, .val (.long q1), .second, .val (.long q2), .second, .val (.long q3), .second, .val (.int p4), .val (.int p5), .val (.int (3 : Int32)), .val (.ref b1), .val (.ref b2), .val (.long (own_fin (own_st (own_st (own_st (0) q0) q1) q2))), .second, .val (.int (1 : Int32)), .val (.int (own_P p5 (3 : Int32))), .val (.long q1), .second, .val (.ref b17), .val (.long (own_fin (own_st (own_st (own_st (0) q0) q3) q2))), .second] [(.long (own_fin (own_st (own_st (own_st (0) q0) q1) q2)))])) _
        refine XT.lload X18.here hx rfl (hb hby at_165) rfl ?_
        show Steps p.tables e below (T18.setTop (mkF m 167 #[.val (.long q0), .second, .val (.long q1), .second, .val (.long q2), .second, .val (.long q3), .second, .val (.int p4), .val (.int p5), .val (.int (3 : Int32)), .val (.ref b1), .val (.ref b2), .val (.long (own_fin (own_st (own_st (own_st (0) q0) q1) q2))), .second, .val (.int (1 : Int32)), .val (.int (own_P p5 (3 : Int32))), .val (.long q1), .second, .val (.ref b17), .val (.long (own_fin (own_st (own_st (own_st (0) q0) q3) q2))), .second] [(.long (own_fin (own_st (own_st (own_st (0) q0) q3) q2))), (.long (own_fin (own_st (own_st (own_st (0) q0) q1) q2)))])) _
        refine XT.lcmp X18.here hx rfl (hb hby at_167) rfl ?_
        show Steps p.tables e below (T18.setTop (mkF m 168 #[.val (.long q0), .second, .val (.long q1), .second, .val (.long q2), .second, .val (.long q3), .second, .val (.int p4), .val (.int p5), .val (.int (3 : Int32)), .val (.ref b1), .val (.ref b2), .val (.long (own_fin (own_st (own_st (own_st (0) q0) q1) q2))), .second, .val (.int (1 : Int32)), .val (.int (own_P p5 (3 : Int32))), .val (.long q1), .second, .val (.ref b17), .val (.long (own_fin (own_st (own_st (own_st (0) q0) q3) q2))), .second] [(.int (XT.cmpL (own_fin (own_st (own_st (own_st (0) q0) q1) q2)) (own_fin (own_st (own_st (own_st (0) q0) q3) q2))))])) _
        exact k)
      by_cases hc168_20 : (own_fin (own_st (own_st (own_st (0) q0) q1) q2)) = (own_fin (own_st (own_st (own_st (0) q0) q3) q2))
      · have S21 : ∀ t, Steps p.tables e below (T18.setTop (mkF m 197 #[.val (.long q0), .second, .val (.long q1), .second, .val (.long q2), .second, .val (.long q3), .second, .val (.int p4), .val (.int p5), .val (.int (3 : Int32)), .val (.ref b1), .val (.ref b2), .val (.long (own_fin (own_st (own_st (own_st (0) q0) q1) q2))), .second, .val (.int (1 : Int32)), .val (.int (own_P p5 (3 : Int32))), .val (.long q1), .second, .val (.ref b17), .val (.long (own_fin (own_st (own_st (own_st (0) q0) q3) q2))), .second] [(.int (1 : Int32))])) t → Steps p.tables e below (s₁.setTop (mkF m 0 #[.val (.long q0), .second, .val (.long q1), .second, .val (.long q2), .second, .val (.long q3), .second, .val (.int p4), .val (.int p5), .unset, .unset, .unset, .unset, .unset, .unset, .unset, .unset, .unset, .unset, .unset, .unset] [])) t := fun t k => S19 t (by
          show Steps p.tables e below (T18.setTop (mkF m 168 #[.val (.long q0), .second, .val (.long q1), .second, .val (.long q2), .second, .val (.long q3), .second, .val (.int p4), .val (.int p5), .val (.int (3 : Int32)), .val (.ref b1), .val (.ref b2), .val (.long (own_fin (own_st (own_st (own_st (0) q0) q1) q2))), .second, .val (.int (1 : Int32)), .val (.int (own_P p5 (3 : Int32))), .val (.long q1), .second, .val (.ref b17), .val (.long (own_fin (own_st (own_st (own_st (0) q0) q3) q2))), .second] [(.int (XT.cmpL (own_fin (own_st (own_st (own_st (0) q0) q1) q2)) (own_fin (own_st (own_st (own_st (0) q0) q3) q2))))])) _
          refine XS.ifNo X18.here hx rfl (hb hby at_168) rfl (XT.ll_ne_f hc168_20) ?_
          show Steps p.tables e below (T18.setTop (mkF m 171 #[.val (.long q0), .second, .val (.long q1), .second, .val (.long q2), .second, .val (.long q3), .second, .val (.int p4), .val (.int p5), .val (.int (3 : Int32)), .val (.ref b1), .val (.ref b2), .val (.long (own_fin (own_st (own_st (own_st (0) q0) q1) q2))), .second, .val (.int (1 : Int32)), .val (.int (own_P p5 (3 : Int32))), .val (.long q1), .second, .val (.ref b17), .val (.long (own_fin (own_st (own_st (own_st (0) q0) q3) q2))), .second] [])) _
          refine XT.iconstV X18.here hx rfl (1 : Int32) (hb hby at_171) (by decide) ?_
          show Steps p.tables e below (T18.setTop (mkF m 172 #[.val (.long q0), .second, .val (.long q1), .second, .val (.long q2), .second, .val (.long q3), .second, .val (.int p4), .val (.int p5), .val (.int (3 : Int32)), .val (.ref b1), .val (.ref b2), .val (.long (own_fin (own_st (own_st (own_st (0) q0) q1) q2))), .second, .val (.int (1 : Int32)), .val (.int (own_P p5 (3 : Int32))), .val (.long q1), .second, .val (.ref b17), .val (.long (own_fin (own_st (own_st (own_st (0) q0) q3) q2))), .second] [(.int (1 : Int32))])) _
          refine XS.goto X18.here hx rfl (pc0 := 172) (pc' := 176) rfl (hb hby at_172) (by decide) (by decide) ?_
          show Steps p.tables e below (T18.setTop (mkF m 176 #[.val (.long q0), .second, .val (.long q1), .second, .val (.long q2), .second, .val (.long q3), .second, .val (.int p4), .val (.int p5), .val (.int (3 : Int32)), .val (.ref b1), .val (.ref b2), .val (.long (own_fin (own_st (own_st (own_st (0) q0) q1) q2))), .second, .val (.int (1 : Int32)), .val (.int (own_P p5 (3 : Int32))), .val (.long q1), .second, .val (.ref b17), .val (.long (own_fin (own_st (own_st (own_st (0) q0) q3) q2))), .second] [(.int (1 : Int32))])) _
          refine XT.lload X18.here hx rfl (hb hby at_176) rfl ?_
          show Steps p.tables e below (T18.setTop (mkF m 178 #[.val (.long q0), .second, .val (.long q1), .second, .val (.long q2), .second, .val (.long q3), .second, .val (.int p4), .val (.int p5), .val (.int (3 : Int32)), .val (.ref b1), .val (.ref b2), .val (.long (own_fin (own_st (own_st (own_st (0) q0) q1) q2))), .second, .val (.int (1 : Int32)), .val (.int (own_P p5 (3 : Int32))), .val (.long q1), .second, .val (.ref b17), .val (.long (own_fin (own_st (own_st (own_st (0) q0) q3) q2))), .second] [(.long q1), (.int (1 : Int32))])) _
          refine XT.lload X18.here hx rfl (hb hby at_178) rfl ?_
          show Steps p.tables e below (T18.setTop (mkF m 180 #[.val (.long q0), .second, .val (.long q1), .second, .val (.long q2), .second, .val (.long q3), .second, .val (.int p4), .val (.int p5), .val (.int (3 : Int32)), .val (.ref b1), .val (.ref b2), .val (.long (own_fin (own_st (own_st (own_st (0) q0) q1) q2))), .second, .val (.int (1 : Int32)), .val (.int (own_P p5 (3 : Int32))), .val (.long q1), .second, .val (.ref b17), .val (.long (own_fin (own_st (own_st (own_st (0) q0) q3) q2))), .second] [(.long q3), (.long q1), (.int (1 : Int32))])) _
          refine XT.lcmp X18.here hx rfl (hb hby at_180) rfl ?_
          show Steps p.tables e below (T18.setTop (mkF m 181 #[.val (.long q0), .second, .val (.long q1), .second, .val (.long q2), .second, .val (.long q3), .second, .val (.int p4), .val (.int p5), .val (.int (3 : Int32)), .val (.ref b1), .val (.ref b2), .val (.long (own_fin (own_st (own_st (own_st (0) q0) q1) q2))), .second, .val (.int (1 : Int32)), .val (.int (own_P p5 (3 : Int32))), .val (.long q1), .second, .val (.ref b17), .val (.long (own_fin (own_st (own_st (own_st (0) q0) q3) q2))), .second] [(.int (XT.cmpL q1 q3)), (.int (1 : Int32))])) _
          refine XS.ifNo X18.here hx rfl (hb hby at_181) rfl (XT.ll_ne_f (own_inj3_q1 hc168_20)) ?_
          show Steps p.tables e below (T18.setTop (mkF m 184 #[.val (.long q0), .second, .val (.long q1), .second, .val (.long q2), .second, .val (.long q3), .second, .val (.int p4), .val (.int p5), .val (.int (3 : Int32)), .val (.ref b1), .val (.ref b2), .val (.long (own_fin (own_st (own_st (own_st (0) q0) q1) q2))), .second, .val (.int (1 : Int32)), .val (.int (own_P p5 (3 : Int32))), .val (.long q1), .second, .val (.ref b17), .val (.long (own_fin (own_st (own_st (own_st (0) q0) q3) q2))), .second] [(.int (1 : Int32))])) _
          refine XT.iconstV X18.here hx rfl (1 : Int32) (hb hby at_184) (by decide) ?_
          show Steps p.tables e below (T18.setTop (mkF m 185 #[.val (.long q0), .second, .val (.long q1), .second, .val (.long q2), .second, .val (.long q3), .second, .val (.int p4), .val (.int p5), .val (.int (3 : Int32)), .val (.ref b1), .val (.ref b2), .val (.long (own_fin (own_st (own_st (own_st (0) q0) q1) q2))), .second, .val (.int (1 : Int32)), .val (.int (own_P p5 (3 : Int32))), .val (.long q1), .second, .val (.ref b17), .val (.long (own_fin (own_st (own_st (own_st (0) q0) q3) q2))), .second] [(.int (1 : Int32)), (.int (1 : Int32))])) _
          refine XS.goto X18.here hx rfl (pc0 := 185) (pc' := 189) rfl (hb hby at_185) (by decide) (by decide) ?_
          show Steps p.tables e below (T18.setTop (mkF m 189 #[.val (.long q0), .second, .val (.long q1), .second, .val (.long q2), .second, .val (.long q3), .second, .val (.int p4), .val (.int p5), .val (.int (3 : Int32)), .val (.ref b1), .val (.ref b2), .val (.long (own_fin (own_st (own_st (own_st (0) q0) q1) q2))), .second, .val (.int (1 : Int32)), .val (.int (own_P p5 (3 : Int32))), .val (.long q1), .second, .val (.ref b17), .val (.long (own_fin (own_st (own_st (own_st (0) q0) q3) q2))), .second] [(.int (1 : Int32)), (.int (1 : Int32))])) _
          refine XS.icmpNo X18.here hx rfl (hb hby at_189) rfl (XT.ii_ne_f (by decide)) ?_
          show Steps p.tables e below (T18.setTop (mkF m 192 #[.val (.long q0), .second, .val (.long q1), .second, .val (.long q2), .second, .val (.long q3), .second, .val (.int p4), .val (.int p5), .val (.int (3 : Int32)), .val (.ref b1), .val (.ref b2), .val (.long (own_fin (own_st (own_st (own_st (0) q0) q1) q2))), .second, .val (.int (1 : Int32)), .val (.int (own_P p5 (3 : Int32))), .val (.long q1), .second, .val (.ref b17), .val (.long (own_fin (own_st (own_st (own_st (0) q0) q3) q2))), .second] [])) _
          refine XT.iconstV X18.here hx rfl (1 : Int32) (hb hby at_192) (by decide) ?_
          show Steps p.tables e below (T18.setTop (mkF m 193 #[.val (.long q0), .second, .val (.long q1), .second, .val (.long q2), .second, .val (.long q3), .second, .val (.int p4), .val (.int p5), .val (.int (3 : Int32)), .val (.ref b1), .val (.ref b2), .val (.long (own_fin (own_st (own_st (own_st (0) q0) q1) q2))), .second, .val (.int (1 : Int32)), .val (.int (own_P p5 (3 : Int32))), .val (.long q1), .second, .val (.ref b17), .val (.long (own_fin (own_st (own_st (own_st (0) q0) q3) q2))), .second] [(.int (1 : Int32))])) _
          refine XS.goto X18.here hx rfl (pc0 := 193) (pc' := 197) rfl (hb hby at_193) (by decide) (by decide) ?_
          show Steps p.tables e below (T18.setTop (mkF m 197 #[.val (.long q0), .second, .val (.long q1), .second, .val (.long q2), .second, .val (.long q3), .second, .val (.int p4), .val (.int p5), .val (.int (3 : Int32)), .val (.ref b1), .val (.ref b2), .val (.long (own_fin (own_st (own_st (own_st (0) q0) q1) q2))), .second, .val (.int (1 : Int32)), .val (.int (own_P p5 (3 : Int32))), .val (.long q1), .second, .val (.ref b17), .val (.long (own_fin (own_st (own_st (own_st (0) q0) q3) q2))), .second] [(.int (1 : Int32))])) _
          exact k)
        obtain ⟨fs, hr, hrun, hended, hW, hsame⟩ := X18.leave (v := some (.int (1 : Int32))) (fun h => by rw [Bd.returns] at h; cases h)
        refine ⟨_, _, pre0 _ (S21 _ ?_), hrun, hended, _, _, rfl, ?_, ⟨_, rfl⟩, hW, hsame.mono (by decide) (by decide)⟩
        · exact retN X18 hx (t := .boolean) Bd.returns (by simp) (hb hby at_197) hr
        · show Qrm0 Z q0 q1 q2 q3 p4 p5 h0 n0 _ T18.heap _
          rw [e18]
          exact ⟨rfl, N18⟩
      · have S22 : ∀ t, Steps p.tables e below (T18.setTop (mkF m 197 #[.val (.long q0), .second, .val (.long q1), .second, .val (.long q2), .second, .val (.long q3), .second, .val (.int p4), .val (.int p5), .val (.int (3 : Int32)), .val (.ref b1), .val (.ref b2), .val (.long (own_fin (own_st (own_st (own_st (0) q0) q1) q2))), .second, .val (.int (1 : Int32)), .val (.int (own_P p5 (3 : Int32))), .val (.long q1), .second, .val (.ref b17), .val (.long (own_fin (own_st (own_st (own_st (0) q0) q3) q2))), .second] [(.int (1 : Int32))])) t → Steps p.tables e below (s₁.setTop (mkF m 0 #[.val (.long q0), .second, .val (.long q1), .second, .val (.long q2), .second, .val (.long q3), .second, .val (.int p4), .val (.int p5), .unset, .unset, .unset, .unset, .unset, .unset, .unset, .unset, .unset, .unset, .unset, .unset] [])) t := fun t k => S19 t (by
          show Steps p.tables e below (T18.setTop (mkF m 168 #[.val (.long q0), .second, .val (.long q1), .second, .val (.long q2), .second, .val (.long q3), .second, .val (.int p4), .val (.int p5), .val (.int (3 : Int32)), .val (.ref b1), .val (.ref b2), .val (.long (own_fin (own_st (own_st (own_st (0) q0) q1) q2))), .second, .val (.int (1 : Int32)), .val (.int (own_P p5 (3 : Int32))), .val (.long q1), .second, .val (.ref b17), .val (.long (own_fin (own_st (own_st (own_st (0) q0) q3) q2))), .second] [(.int (XT.cmpL (own_fin (own_st (own_st (own_st (0) q0) q1) q2)) (own_fin (own_st (own_st (own_st (0) q0) q3) q2))))])) _
          refine XS.ifYes X18.here hx rfl (pc0 := 168) (pc' := 175) rfl (hb hby at_168) rfl (XT.ll_ne_t hc168_20) (by decide) (by decide) ?_
          show Steps p.tables e below (T18.setTop (mkF m 175 #[.val (.long q0), .second, .val (.long q1), .second, .val (.long q2), .second, .val (.long q3), .second, .val (.int p4), .val (.int p5), .val (.int (3 : Int32)), .val (.ref b1), .val (.ref b2), .val (.long (own_fin (own_st (own_st (own_st (0) q0) q1) q2))), .second, .val (.int (1 : Int32)), .val (.int (own_P p5 (3 : Int32))), .val (.long q1), .second, .val (.ref b17), .val (.long (own_fin (own_st (own_st (own_st (0) q0) q3) q2))), .second] [])) _
          refine XT.iconstV X18.here hx rfl (0 : Int32) (hb hby at_175) (by decide) ?_
          show Steps p.tables e below (T18.setTop (mkF m 176 #[.val (.long q0), .second, .val (.long q1), .second, .val (.long q2), .second, .val (.long q3), .second, .val (.int p4), .val (.int p5), .val (.int (3 : Int32)), .val (.ref b1), .val (.ref b2), .val (.long (own_fin (own_st (own_st (own_st (0) q0) q1) q2))), .second, .val (.int (1 : Int32)), .val (.int (own_P p5 (3 : Int32))), .val (.long q1), .second, .val (.ref b17), .val (.long (own_fin (own_st (own_st (own_st (0) q0) q3) q2))), .second] [(.int (0 : Int32))])) _
          refine XT.lload X18.here hx rfl (hb hby at_176) rfl ?_
          show Steps p.tables e below (T18.setTop (mkF m 178 #[.val (.long q0), .second, .val (.long q1), .second, .val (.long q2), .second, .val (.long q3), .second, .val (.int p4), .val (.int p5), .val (.int (3 : Int32)), .val (.ref b1), .val (.ref b2), .val (.long (own_fin (own_st (own_st (own_st (0) q0) q1) q2))), .second, .val (.int (1 : Int32)), .val (.int (own_P p5 (3 : Int32))), .val (.long q1), .second, .val (.ref b17), .val (.long (own_fin (own_st (own_st (own_st (0) q0) q3) q2))), .second] [(.long q1), (.int (0 : Int32))])) _
          refine XT.lload X18.here hx rfl (hb hby at_178) rfl ?_
          show Steps p.tables e below (T18.setTop (mkF m 180 #[.val (.long q0), .second, .val (.long q1), .second, .val (.long q2), .second, .val (.long q3), .second, .val (.int p4), .val (.int p5), .val (.int (3 : Int32)), .val (.ref b1), .val (.ref b2), .val (.long (own_fin (own_st (own_st (own_st (0) q0) q1) q2))), .second, .val (.int (1 : Int32)), .val (.int (own_P p5 (3 : Int32))), .val (.long q1), .second, .val (.ref b17), .val (.long (own_fin (own_st (own_st (own_st (0) q0) q3) q2))), .second] [(.long q3), (.long q1), (.int (0 : Int32))])) _
          refine XT.lcmp X18.here hx rfl (hb hby at_180) rfl ?_
          show Steps p.tables e below (T18.setTop (mkF m 181 #[.val (.long q0), .second, .val (.long q1), .second, .val (.long q2), .second, .val (.long q3), .second, .val (.int p4), .val (.int p5), .val (.int (3 : Int32)), .val (.ref b1), .val (.ref b2), .val (.long (own_fin (own_st (own_st (own_st (0) q0) q1) q2))), .second, .val (.int (1 : Int32)), .val (.int (own_P p5 (3 : Int32))), .val (.long q1), .second, .val (.ref b17), .val (.long (own_fin (own_st (own_st (own_st (0) q0) q3) q2))), .second] [(.int (XT.cmpL q1 q3)), (.int (0 : Int32))])) _
          refine XS.ifYes X18.here hx rfl (pc0 := 181) (pc' := 188) rfl (hb hby at_181) rfl (XT.ll_ne_t (fun q => hc168_20 (by rw [q]))) (by decide) (by decide) ?_
          show Steps p.tables e below (T18.setTop (mkF m 188 #[.val (.long q0), .second, .val (.long q1), .second, .val (.long q2), .second, .val (.long q3), .second, .val (.int p4), .val (.int p5), .val (.int (3 : Int32)), .val (.ref b1), .val (.ref b2), .val (.long (own_fin (own_st (own_st (own_st (0) q0) q1) q2))), .second, .val (.int (1 : Int32)), .val (.int (own_P p5 (3 : Int32))), .val (.long q1), .second, .val (.ref b17), .val (.long (own_fin (own_st (own_st (own_st (0) q0) q3) q2))), .second] [(.int (0 : Int32))])) _
          refine XT.iconstV X18.here hx rfl (0 : Int32) (hb hby at_188) (by decide) ?_
          show Steps p.tables e below (T18.setTop (mkF m 189 #[.val (.long q0), .second, .val (.long q1), .second, .val (.long q2), .second, .val (.long q3), .second, .val (.int p4), .val (.int p5), .val (.int (3 : Int32)), .val (.ref b1), .val (.ref b2), .val (.long (own_fin (own_st (own_st (own_st (0) q0) q1) q2))), .second, .val (.int (1 : Int32)), .val (.int (own_P p5 (3 : Int32))), .val (.long q1), .second, .val (.ref b17), .val (.long (own_fin (own_st (own_st (own_st (0) q0) q3) q2))), .second] [(.int (0 : Int32)), (.int (0 : Int32))])) _
          refine XS.icmpNo X18.here hx rfl (hb hby at_189) rfl (XT.ii_ne_f (by decide)) ?_
          show Steps p.tables e below (T18.setTop (mkF m 192 #[.val (.long q0), .second, .val (.long q1), .second, .val (.long q2), .second, .val (.long q3), .second, .val (.int p4), .val (.int p5), .val (.int (3 : Int32)), .val (.ref b1), .val (.ref b2), .val (.long (own_fin (own_st (own_st (own_st (0) q0) q1) q2))), .second, .val (.int (1 : Int32)), .val (.int (own_P p5 (3 : Int32))), .val (.long q1), .second, .val (.ref b17), .val (.long (own_fin (own_st (own_st (own_st (0) q0) q3) q2))), .second] [])) _
          refine XT.iconstV X18.here hx rfl (1 : Int32) (hb hby at_192) (by decide) ?_
          show Steps p.tables e below (T18.setTop (mkF m 193 #[.val (.long q0), .second, .val (.long q1), .second, .val (.long q2), .second, .val (.long q3), .second, .val (.int p4), .val (.int p5), .val (.int (3 : Int32)), .val (.ref b1), .val (.ref b2), .val (.long (own_fin (own_st (own_st (own_st (0) q0) q1) q2))), .second, .val (.int (1 : Int32)), .val (.int (own_P p5 (3 : Int32))), .val (.long q1), .second, .val (.ref b17), .val (.long (own_fin (own_st (own_st (own_st (0) q0) q3) q2))), .second] [(.int (1 : Int32))])) _
          refine XS.goto X18.here hx rfl (pc0 := 193) (pc' := 197) rfl (hb hby at_193) (by decide) (by decide) ?_
          show Steps p.tables e below (T18.setTop (mkF m 197 #[.val (.long q0), .second, .val (.long q1), .second, .val (.long q2), .second, .val (.long q3), .second, .val (.int p4), .val (.int p5), .val (.int (3 : Int32)), .val (.ref b1), .val (.ref b2), .val (.long (own_fin (own_st (own_st (own_st (0) q0) q1) q2))), .second, .val (.int (1 : Int32)), .val (.int (own_P p5 (3 : Int32))), .val (.long q1), .second, .val (.ref b17), .val (.long (own_fin (own_st (own_st (own_st (0) q0) q3) q2))), .second] [(.int (1 : Int32))])) _
          exact k)
        obtain ⟨fs, hr, hrun, hended, hW, hsame⟩ := X18.leave (v := some (.int (1 : Int32))) (fun h => by rw [Bd.returns] at h; cases h)
        refine ⟨_, _, pre0 _ (S22 _ ?_), hrun, hended, _, _, rfl, ?_, ⟨_, rfl⟩, hW, hsame.mono (by decide) (by decide)⟩
        · exact retN X18 hx (t := .boolean) Bd.returns (by simp) (hb hby at_197) hr
        · show Qrm0 Z q0 q1 q2 q3 p4 p5 h0 n0 _ T18.heap _
          rw [e18]
          exact ⟨rfl, N18⟩
    · obtain ⟨_, _, ⟨T23, L23, k23, n23⟩, -, X23, ⟨Lc23, hQ23, l23, y23, z23⟩, st23⟩ := Jvm.LawKit.callS X6 hx (y := (⟨"com/example/bare_refinement/barerefinement/exploration/StateSpaceHashPinLaw", "make", "(IJJJ)[J"⟩ : MethodName)) hown (mvT hZ (hw _ (List.mem_of_getElem? (i := 0) rfl))) (mvT hZ (hw _ (List.mem_of_getElem? (i := 1) rfl))) (mvT hZ (hw _ (List.mem_of_getElem? (i := 2) rfl))) (mvT hZ (hw _ (List.mem_of_getElem? (i := 3) rfl))) (by decide) (backOf (W := 0) (rmMake3 l Z av0 hw [] q0 q1 q3 T2.heap n0 Z2) hZ (hw _ (List.mem_of_getElem? (i := 3) rfl)) (hw _ (List.mem_of_getElem? (i := 2) rfl)) (by decide) (by decide)) (g := (mkF m 146 #[.val (.long q0), .second, .val (.long q1), .second, .val (.long q2), .second, .val (.long q3), .second, .val (.int p4), .val (.int p5), .val (.int (3 : Int32)), .val (.ref b1), .val (.ref b2), .val (.long (own_fin (own_st (own_st (own_st (0) q0) q1) q2))), .second, .val (.int (1 : Int32)), .val (.int (own_P p5 (3 : Int32))), .val (.long q2), .second, .unset, .unset, .unset] [(.long q3), (.long q1), (.long q0), (.int (3 : Int32))])) rfl (by rw [hml]; rfl) (argsL := [(.int (3 : Int32)), (.long q0), (.long q1), (.long q3)]) (rest := []) (lenOf pd__IJJJ_J rfl) rfl (by show 2 * 0 + _ ≤ _; exact Nat.le_of_eq rfl) (hb hby at_146) (fun _ _ => ⟨rfl, e6, (by decide : 2 + 1 ≤ _), (by decide : 6 + 3 ≤ _)⟩)
      dsimp only [Pt.U, Pt.locs, Pt.cells, Pt.slots] at X23 l23 y23 z23 st23 hQ23
      subst l23 y23 z23
      obtain ⟨b23, k23', rfl, N23q, ge23, K23, V23⟩ := hQ23
      have N23 := Fr.app N6 N23q
      have e23 : T23.heap = T23.heap := rfl
      have ne_b1_b23 : b1 ≠ b23 := Nat.ne_of_lt (Nat.lt_of_lt_of_le f3.lt ge23)
      have ne_b2_b23 : b2 ≠ b23 := Nat.ne_of_lt (Nat.lt_of_lt_of_le V2.lt ge23)
      have Z23 : n0 ≤ T23.heap.size := Nat.le_trans Z2 K23.1
      obtain ⟨_, _, ⟨T24, L24, k24, n24⟩, -, X24, ⟨Lc24, hQ24, l24, y24, z24⟩, st24⟩ := Jvm.LawKit.callS X23 hx (y := (⟨"com/example/bare_refinement/barerefinement/exploration/StateSpace", "hash", "([J)J"⟩ : MethodName)) hown (mvT hZ (hw _ (List.mem_of_getElem? (i := 5) rfl))) (mvT hZ (hw _ (List.mem_of_getElem? (i := 6) rfl))) (mvT hZ (hw _ (List.mem_of_getElem? (i := 7) rfl))) (mvT hZ (hw _ (List.mem_of_getElem? (i := 8) rfl))) (by decide) (backOf (W := 0) (rmHash3 l Z av0 hw [] b23 k23' q0 q1 q3 T23.heap n0 Z23 V23) hZ (hw _ (List.mem_of_getElem? (i := 8) rfl)) (hw _ (List.mem_of_getElem? (i := 7) rfl)) (by decide) (by decide)) (g := (mkF m 153 #[.val (.long q0), .second, .val (.long q1), .second, .val (.long q2), .second, .val (.long q3), .second, .val (.int p4), .val (.int p5), .val (.int (3 : Int32)), .val (.ref b1), .val (.ref b2), .val (.long (own_fin (own_st (own_st (own_st (0) q0) q1) q2))), .second, .val (.int (1 : Int32)), .val (.int (own_P p5 (3 : Int32))), .val (.long q2), .second, .val (.ref b23), .unset, .unset] [(.ref b23)])) rfl (by rw [hml]; rfl) (argsL := [(.ref b23)]) (rest := []) (lenOf pd__J_J rfl) rfl (by show 2 * 0 + _ ≤ _; exact Nat.le_of_eq rfl) (hb hby at_153) (fun _ _ => ⟨rfl, e23, (by decide : 3 + 0 ≤ _), (by decide : 9 + 0 ≤ _)⟩)
      dsimp only [Pt.U, Pt.locs, Pt.cells, Pt.slots] at X24 l24 y24 z24 st24 hQ24
      subst l24 y24 z24
      obtain ⟨rfl, N24q, hh24⟩ := hQ24
      have N24 := Fr.app N23 N24q
      have e24 : T24.heap = T23.heap := hh24
      have S25 : ∀ t, Steps p.tables e below (T24.setTop (mkF m 168 #[.val (.long q0), .second, .val (.long q1), .second, .val (.long q2), .second, .val (.long q3), .second, .val (.int p4), .val (.int p5), .val (.int (3 : Int32)), .val (.ref b1), .val (.ref b2), .val (.long (own_fin (own_st (own_st (own_st (0) q0) q1) q2))), .second, .val (.int (1 : Int32)), .val (.int (own_P p5 (3 : Int32))), .val (.long q2), .second, .val (.ref b23), .val (.long (own_fin (own_st (own_st (own_st (0) q0) q1) q3))), .second] [(.int (XT.cmpL (own_fin (own_st (own_st (own_st (0) q0) q1) q2)) (own_fin (own_st (own_st (own_st (0) q0) q1) q3))))])) t → Steps p.tables e below (s₁.setTop (mkF m 0 #[.val (.long q0), .second, .val (.long q1), .second, .val (.long q2), .second, .val (.long q3), .second, .val (.int p4), .val (.int p5), .unset, .unset, .unset, .unset, .unset, .unset, .unset, .unset, .unset, .unset, .unset, .unset] [])) t := fun t k => S15 t (by
        show Steps p.tables e below (T6.setTop (mkF m 97 #[.val (.long q0), .second, .val (.long q1), .second, .val (.long q2), .second, .val (.long q3), .second, .val (.int p4), .val (.int p5), .val (.int (3 : Int32)), .val (.ref b1), .val (.ref b2), .val (.long (own_fin (own_st (own_st (own_st (0) q0) q1) q2))), .second, .val (.int (1 : Int32)), .val (.int (own_P p5 (3 : Int32))), .unset, .unset, .unset, .unset, .unset] [(.int (1 : Int32)), (.int (own_P p5 (3 : Int32)))])) _
        refine XS.icmpYes X6.here hx rfl (pc0 := 97) (pc' := 104) rfl (hb hby at_97) rfl (XT.ii_ne_t hc97_16) (by decide) (by decide) ?_
        show Steps p.tables e below (T6.setTop (mkF m 104 #[.val (.long q0), .second, .val (.long q1), .second, .val (.long q2), .second, .val (.long q3), .second, .val (.int p4), .val (.int p5), .val (.int (3 : Int32)), .val (.ref b1), .val (.ref b2), .val (.long (own_fin (own_st (own_st (own_st (0) q0) q1) q2))), .second, .val (.int (1 : Int32)), .val (.int (own_P p5 (3 : Int32))), .unset, .unset, .unset, .unset, .unset] [])) _
        refine XT.lload X6.here hx rfl (hb hby at_104) rfl ?_
        show Steps p.tables e below (T6.setTop (mkF m 106 #[.val (.long q0), .second, .val (.long q1), .second, .val (.long q2), .second, .val (.long q3), .second, .val (.int p4), .val (.int p5), .val (.int (3 : Int32)), .val (.ref b1), .val (.ref b2), .val (.long (own_fin (own_st (own_st (own_st (0) q0) q1) q2))), .second, .val (.int (1 : Int32)), .val (.int (own_P p5 (3 : Int32))), .unset, .unset, .unset, .unset, .unset] [(.long q2)])) _
        refine XT.lstore X6.here hx rfl (hb hby at_106) rfl (l' := #[.val (.long q0), .second, .val (.long q1), .second, .val (.long q2), .second, .val (.long q3), .second, .val (.int p4), .val (.int p5), .val (.int (3 : Int32)), .val (.ref b1), .val (.ref b2), .val (.long (own_fin (own_st (own_st (own_st (0) q0) q1) q2))), .second, .val (.int (1 : Int32)), .val (.int (own_P p5 (3 : Int32))), .val (.long q2), .second, .unset, .unset, .unset]) rfl ?_
        show Steps p.tables e below (T6.setTop (mkF m 108 #[.val (.long q0), .second, .val (.long q1), .second, .val (.long q2), .second, .val (.long q3), .second, .val (.int p4), .val (.int p5), .val (.int (3 : Int32)), .val (.ref b1), .val (.ref b2), .val (.long (own_fin (own_st (own_st (own_st (0) q0) q1) q2))), .second, .val (.int (1 : Int32)), .val (.int (own_P p5 (3 : Int32))), .val (.long q2), .second, .unset, .unset, .unset] [])) _
        refine XS.iload X6.here hx rfl (hb hby at_108) rfl ?_
        show Steps p.tables e below (T6.setTop (mkF m 110 #[.val (.long q0), .second, .val (.long q1), .second, .val (.long q2), .second, .val (.long q3), .second, .val (.int p4), .val (.int p5), .val (.int (3 : Int32)), .val (.ref b1), .val (.ref b2), .val (.long (own_fin (own_st (own_st (own_st (0) q0) q1) q2))), .second, .val (.int (1 : Int32)), .val (.int (own_P p5 (3 : Int32))), .val (.long q2), .second, .unset, .unset, .unset] [(.int (3 : Int32))])) _
        refine XS.iload X6.here hx rfl (hb hby at_110) rfl ?_
        show Steps p.tables e below (T6.setTop (mkF m 112 #[.val (.long q0), .second, .val (.long q1), .second, .val (.long q2), .second, .val (.long q3), .second, .val (.int p4), .val (.int p5), .val (.int (3 : Int32)), .val (.ref b1), .val (.ref b2), .val (.long (own_fin (own_st (own_st (own_st (0) q0) q1) q2))), .second, .val (.int (1 : Int32)), .val (.int (own_P p5 (3 : Int32))), .val (.long q2), .second, .unset, .unset, .unset] [(.int (own_P p5 (3 : Int32))), (.int (3 : Int32))])) _
        refine XS.ifYes X6.here hx rfl (pc0 := 112) (pc' := 120) rfl (hb hby at_112) rfl (XT.i0_ne_t hc87_8) (by decide) (by decide) ?_
        show Steps p.tables e below (T6.setTop (mkF m 120 #[.val (.long q0), .second, .val (.long q1), .second, .val (.long q2), .second, .val (.long q3), .second, .val (.int p4), .val (.int p5), .val (.int (3 : Int32)), .val (.ref b1), .val (.ref b2), .val (.long (own_fin (own_st (own_st (own_st (0) q0) q1) q2))), .second, .val (.int (1 : Int32)), .val (.int (own_P p5 (3 : Int32))), .val (.long q2), .second, .unset, .unset, .unset] [(.int (3 : Int32))])) _
        refine XT.lloadN X6.here hx rfl (hb hby at_120) rfl ?_
        show Steps p.tables e below (T6.setTop (mkF m 121 #[.val (.long q0), .second, .val (.long q1), .second, .val (.long q2), .second, .val (.long q3), .second, .val (.int p4), .val (.int p5), .val (.int (3 : Int32)), .val (.ref b1), .val (.ref b2), .val (.long (own_fin (own_st (own_st (own_st (0) q0) q1) q2))), .second, .val (.int (1 : Int32)), .val (.int (own_P p5 (3 : Int32))), .val (.long q2), .second, .unset, .unset, .unset] [(.long q0), (.int (3 : Int32))])) _
        refine XS.iload X6.here hx rfl (hb hby at_121) rfl ?_
        show Steps p.tables e below (T6.setTop (mkF m 123 #[.val (.long q0), .second, .val (.long q1), .second, .val (.long q2), .second, .val (.long q3), .second, .val (.int p4), .val (.int p5), .val (.int (3 : Int32)), .val (.ref b1), .val (.ref b2), .val (.long (own_fin (own_st (own_st (own_st (0) q0) q1) q2))), .second, .val (.int (1 : Int32)), .val (.int (own_P p5 (3 : Int32))), .val (.long q2), .second, .unset, .unset, .unset] [(.int (own_P p5 (3 : Int32))), (.long q0), (.int (3 : Int32))])) _
        refine XT.iconstV X6.here hx rfl (1 : Int32) (hb hby at_123) (by decide) ?_
        show Steps p.tables e below (T6.setTop (mkF m 124 #[.val (.long q0), .second, .val (.long q1), .second, .val (.long q2), .second, .val (.long q3), .second, .val (.int p4), .val (.int p5), .val (.int (3 : Int32)), .val (.ref b1), .val (.ref b2), .val (.long (own_fin (own_st (own_st (own_st (0) q0) q1) q2))), .second, .val (.int (1 : Int32)), .val (.int (own_P p5 (3 : Int32))), .val (.long q2), .second, .unset, .unset, .unset] [(.int (1 : Int32)), (.int (own_P p5 (3 : Int32))), (.long q0), (.int (3 : Int32))])) _
        refine XS.icmpYes X6.here hx rfl (pc0 := 124) (pc' := 132) rfl (hb hby at_124) rfl (XT.ii_ne_t hc97_16) (by decide) (by decide) ?_
        show Steps p.tables e below (T6.setTop (mkF m 132 #[.val (.long q0), .second, .val (.long q1), .second, .val (.long q2), .second, .val (.long q3), .second, .val (.int p4), .val (.int p5), .val (.int (3 : Int32)), .val (.ref b1), .val (.ref b2), .val (.long (own_fin (own_st (own_st (own_st (0) q0) q1) q2))), .second, .val (.int (1 : Int32)), .val (.int (own_P p5 (3 : Int32))), .val (.long q2), .second, .unset, .unset, .unset] [(.long q0), (.int (3 : Int32))])) _
        refine XT.lloadN X6.here hx rfl (hb hby at_132) rfl ?_
        show Steps p.tables e below (T6.setTop (mkF m 133 #[.val (.long q0), .second, .val (.long q1), .second, .val (.long q2), .second, .val (.long q3), .second, .val (.int p4), .val (.int p5), .val (.int (3 : Int32)), .val (.ref b1), .val (.ref b2), .val (.long (own_fin (own_st (own_st (own_st (0) q0) q1) q2))), .second, .val (.int (1 : Int32)), .val (.int (own_P p5 (3 : Int32))), .val (.long q2), .second, .unset, .unset, .unset] [(.long q1), (.long q0), (.int (3 : Int32))])) _
        refine XS.iload X6.here hx rfl (hb hby at_133) rfl ?_
        show Steps p.tables e below (T6.setTop (mkF m 135 #[.val (.long q0), .second, .val (.long q1), .second, .val (.long q2), .second, .val (.long q3), .second, .val (.int p4), .val (.int p5), .val (.int (3 : Int32)), .val (.ref b1), .val (.ref b2), .val (.long (own_fin (own_st (own_st (own_st (0) q0) q1) q2))), .second, .val (.int (1 : Int32)), .val (.int (own_P p5 (3 : Int32))), .val (.long q2), .second, .unset, .unset, .unset] [(.int (own_P p5 (3 : Int32))), (.long q1), (.long q0), (.int (3 : Int32))])) _
        refine XT.iconstV X6.here hx rfl (2 : Int32) (hb hby at_135) (by decide) ?_
        show Steps p.tables e below (T6.setTop (mkF m 136 #[.val (.long q0), .second, .val (.long q1), .second, .val (.long q2), .second, .val (.long q3), .second, .val (.int p4), .val (.int p5), .val (.int (3 : Int32)), .val (.ref b1), .val (.ref b2), .val (.long (own_fin (own_st (own_st (own_st (0) q0) q1) q2))), .second, .val (.int (1 : Int32)), .val (.int (own_P p5 (3 : Int32))), .val (.long q2), .second, .unset, .unset, .unset] [(.int (2 : Int32)), (.int (own_P p5 (3 : Int32))), (.long q1), (.long q0), (.int (3 : Int32))])) _
        refine XS.icmpNo X6.here hx rfl (hb hby at_136) rfl (XT.ii_ne_f (own_P3 p5 hc87_8 hc97_16)) ?_
        show Steps p.tables e below (T6.setTop (mkF m 139 #[.val (.long q0), .second, .val (.long q1), .second, .val (.long q2), .second, .val (.long q3), .second, .val (.int p4), .val (.int p5), .val (.int (3 : Int32)), .val (.ref b1), .val (.ref b2), .val (.long (own_fin (own_st (own_st (own_st (0) q0) q1) q2))), .second, .val (.int (1 : Int32)), .val (.int (own_P p5 (3 : Int32))), .val (.long q2), .second, .unset, .unset, .unset] [(.long q1), (.long q0), (.int (3 : Int32))])) _
        refine XT.lload X6.here hx rfl (hb hby at_139) rfl ?_
        show Steps p.tables e below (T6.setTop (mkF m 141 #[.val (.long q0), .second, .val (.long q1), .second, .val (.long q2), .second, .val (.long q3), .second, .val (.int p4), .val (.int p5), .val (.int (3 : Int32)), .val (.ref b1), .val (.ref b2), .val (.long (own_fin (own_st (own_st (own_st (0) q0) q1) q2))), .second, .val (.int (1 : Int32)), .val (.int (own_P p5 (3 : Int32))), .val (.long q2), .second, .unset, .unset, .unset] [(.long q3), (.long q1), (.long q0), (.int (3 : Int32))])) _
        refine XS.goto X6.here hx rfl (pc0 := 141) (pc' := 146) rfl (hb hby at_141) (by decide) (by decide) ?_
        show Steps p.tables e below (T6.setTop (mkF m 146 #[.val (.long q0), .second, .val (.long q1), .second, .val (.long q2), .second, .val (.long q3), .second, .val (.int p4), .val (.int p5), .val (.int (3 : Int32)), .val (.ref b1), .val (.ref b2), .val (.long (own_fin (own_st (own_st (own_st (0) q0) q1) q2))), .second, .val (.int (1 : Int32)), .val (.int (own_P p5 (3 : Int32))), .val (.long q2), .second, .unset, .unset, .unset] [(.long q3), (.long q1), (.long q0), (.int (3 : Int32))])) _
        refine st23 _ ?_
        show Steps p.tables e below (T23.setTop (mkF m 149 #[.val (.long q0), .second, .val (.long q1), .second, .val (.long q2), .second, .val (.long q3), .second, .val (.int p4), .val (.int p5), .val (.int (3 : Int32)), .val (.ref b1), .val (.ref b2), .val (.long (own_fin (own_st (own_st (own_st (0) q0) q1) q2))), .second, .val (.int (1 : Int32)), .val (.int (own_P p5 (3 : Int32))), .val (.long q2), .second, .unset, .unset, .unset] [(.ref b23)])) _
        refine XS.astore X23.here hx rfl (hb hby at_149) rfl rfl (l' := #[.val (.long q0), .second, .val (.long q1), .second, .val (.long q2), .second, .val (.long q3), .second, .val (.int p4), .val (.int p5), .val (.int (3 : Int32)), .val (.ref b1), .val (.ref b2), .val (.long (own_fin (own_st (own_st (own_st (0) q0) q1) q2))), .second, .val (.int (1 : Int32)), .val (.int (own_P p5 (3 : Int32))), .val (.long q2), .second, .val (.ref b23), .unset, .unset]) rfl ?_
        show Steps p.tables e below (T23.setTop (mkF m 151 #[.val (.long q0), .second, .val (.long q1), .second, .val (.long q2), .second, .val (.long q3), .second, .val (.int p4), .val (.int p5), .val (.int (3 : Int32)), .val (.ref b1), .val (.ref b2), .val (.long (own_fin (own_st (own_st (own_st (0) q0) q1) q2))), .second, .val (.int (1 : Int32)), .val (.int (own_P p5 (3 : Int32))), .val (.long q2), .second, .val (.ref b23), .unset, .unset] [])) _
        refine XS.aload X23.here hx rfl (hb hby at_151) rfl rfl ?_
        show Steps p.tables e below (T23.setTop (mkF m 153 #[.val (.long q0), .second, .val (.long q1), .second, .val (.long q2), .second, .val (.long q3), .second, .val (.int p4), .val (.int p5), .val (.int (3 : Int32)), .val (.ref b1), .val (.ref b2), .val (.long (own_fin (own_st (own_st (own_st (0) q0) q1) q2))), .second, .val (.int (1 : Int32)), .val (.int (own_P p5 (3 : Int32))), .val (.long q2), .second, .val (.ref b23), .unset, .unset] [(.ref b23)])) _
        refine st24 _ ?_
        show Steps p.tables e below (T24.setTop (mkF m 156 #[.val (.long q0), .second, .val (.long q1), .second, .val (.long q2), .second, .val (.long q3), .second, .val (.int p4), .val (.int p5), .val (.int (3 : Int32)), .val (.ref b1), .val (.ref b2), .val (.long (own_fin (own_st (own_st (own_st (0) q0) q1) q2))), .second, .val (.int (1 : Int32)), .val (.int (own_P p5 (3 : Int32))), .val (.long q2), .second, .val (.ref b23), .unset, .unset] [(.long (own_fin (own_st (own_st (own_st (0) q0) q1) q3)))])) _
        refine XT.lstore X24.here hx rfl (hb hby at_156) rfl (l' := #[.val (.long q0), .second, .val (.long q1), .second, .val (.long q2), .second, .val (.long q3), .second, .val (.int p4), .val (.int p5), .val (.int (3 : Int32)), .val (.ref b1), .val (.ref b2), .val (.long (own_fin (own_st (own_st (own_st (0) q0) q1) q2))), .second, .val (.int (1 : Int32)), .val (.int (own_P p5 (3 : Int32))), .val (.long q2), .second, .val (.ref b23), .val (.long (own_fin (own_st (own_st (own_st (0) q0) q1) q3))), .second]) rfl ?_
        show Steps p.tables e below (T24.setTop (mkF m 158 #[.val (.long q0), .second, .val (.long q1), .second, .val (.long q2), .second, .val (.long q3), .second, .val (.int p4), .val (.int p5), .val (.int (3 : Int32)), .val (.ref b1), .val (.ref b2), .val (.long (own_fin (own_st (own_st (own_st (0) q0) q1) q2))), .second, .val (.int (1 : Int32)), .val (.int (own_P p5 (3 : Int32))), .val (.long q2), .second, .val (.ref b23), .val (.long (own_fin (own_st (own_st (own_st (0) q0) q1) q3))), .second] [])) _
        refine XS.iload X24.here hx rfl (hb hby at_158) rfl ?_
        show Steps p.tables e below (T24.setTop (mkF m 160 #[.val (.long q0), .second, .val (.long q1), .second, .val (.long q2), .second, .val (.long q3), .second, .val (.int p4), .val (.int p5), .val (.int (3 : Int32)), .val (.ref b1), .val (.ref b2), .val (.long (own_fin (own_st (own_st (own_st (0) q0) q1) q2))), .second, .val (.int (1 : Int32)), .val (.int (own_P p5 (3 : Int32))), .val (.long q2), .second, .val (.ref b23), .val (.long (own_fin (own_st (own_st (own_st (0) q0) q1) q3))), .second] [(.int (1 : Int32))])) _
        refine XS.ifNo X24.here hx rfl (hb hby at_160) rfl (XT.i0_eq_f (by decide)) ?_
        show Steps p.tables e below (T24.setTop (mkF m 163 #[.val (.long q0), .second, .val (.long q1), .second, .val (.long q2), .second, .val (.long q3), .second, .val (.int p4), .val (.int p5), .val (.int (3 : Int32)), .val (.ref b1), .val (.ref b2), .val (.long (own_fin (own_st (own_st (own_st (0) q0) q1) q2))), .second, .val (.int (1 : Int32)), .val (.int (own_P p5 (3 : Int32))), .val (.long q2), .second, .val (.ref b23), .val (.long (own_fin (own_st (own_st (own_st (0) q0) q1) q3))), .second] [])) _
        refine XT.lload X24.here hx rfl (hb hby at_163) rfl ?_
        show Steps p.tables e below (T24.setTop (mkF m 165 #[.val (.long q0), .second, .val (.long q1), .second, .val (.long q2), .second, .val (.long q3), .second, .val (.int p4), .val (.int p5), .val (.int (3 : Int32)), .val (.ref b1), .val (.ref b2), .val (.long (own_fin (own_st (own_st (own_st (0) q0) q1) q2))), .second, .val (.int (1 : Int32)), .val (.int (own_P p5 (3 : Int32))), .val (.long q2), .second, .val (.ref b23), .val (.long (own_fin (own_st (own_st (own_st (0) q0) q1) q3))), .second] [(.long (own_fin (own_st (own_st (own_st (0) q0) q1) q2)))])) _
        refine XT.lload X24.here hx rfl (hb hby at_165) rfl ?_
        show Steps p.tables e below (T24.setTop (mkF m 167 #[.val (.long q0), .second, .val (.long q1), .second, .val (.long q2), .second, .val (.long q3), .second, .val (.int p4), .val (.int p5), .val (.int (3 : Int32)), .val (.ref b1), .val (.ref b2), .val (.long (own_fin (own_st (own_st (own_st (0) q0) q1) q2))), .second, .val (.int (1 : Int32)), .val (.int (own_P p5 (3 : Int32))), .val (.long q2), .second, .val (.ref b23), .val (.long (own_fin (own_st (own_st (own_st (0) q0) q1) q3))), .second] [(.long (own_fin (own_st (own_st (own_st (0) q0) q1) q3))), (.long (own_fin (own_st (own_st (own_st (0) q0) q1) q2)))])) _
        refine XT.lcmp X24.here hx rfl (hb hby at_167) rfl ?_
        show Steps p.tables e below (T24.setTop (mkF m 168 #[.val (.long q0), .second, .val (.long q1), .second, .val (.long q2), .second, .val (.long q3), .second, .val (.int p4), .val (.int p5), .val (.int (3 : Int32)), .val (.ref b1), .val (.ref b2), .val (.long (own_fin (own_st (own_st (own_st (0) q0) q1) q2))), .second, .val (.int (1 : Int32)), .val (.int (own_P p5 (3 : Int32))), .val (.long q2), .second, .val (.ref b23), .val (.long (own_fin (own_st (own_st (own_st (0) q0) q1) q3))), .second] [(.int (XT.cmpL (own_fin (own_st (own_st (own_st (0) q0) q1) q2)) (own_fin (own_st (own_st (own_st (0) q0) q1) q3))))])) _
        exact k)
      by_cases hc168_26 : (own_fin (own_st (own_st (own_st (0) q0) q1) q2)) = (own_fin (own_st (own_st (own_st (0) q0) q1) q3))
      · have S27 : ∀ t, Steps p.tables e below (T24.setTop (mkF m 197 #[.val (.long q0), .second, .val (.long q1), .second, .val (.long q2), .second, .val (.long q3), .second, .val (.int p4), .val (.int p5), .val (.int (3 : Int32)), .val (.ref b1), .val (.ref b2), .val (.long (own_fin (own_st (own_st (own_st (0) q0) q1) q2))), .second, .val (.int (1 : Int32)), .val (.int (own_P p5 (3 : Int32))), .val (.long q2), .second, .val (.ref b23), .val (.long (own_fin (own_st (own_st (own_st (0) q0) q1) q3))), .second] [(.int (1 : Int32))])) t → Steps p.tables e below (s₁.setTop (mkF m 0 #[.val (.long q0), .second, .val (.long q1), .second, .val (.long q2), .second, .val (.long q3), .second, .val (.int p4), .val (.int p5), .unset, .unset, .unset, .unset, .unset, .unset, .unset, .unset, .unset, .unset, .unset, .unset] [])) t := fun t k => S25 t (by
          show Steps p.tables e below (T24.setTop (mkF m 168 #[.val (.long q0), .second, .val (.long q1), .second, .val (.long q2), .second, .val (.long q3), .second, .val (.int p4), .val (.int p5), .val (.int (3 : Int32)), .val (.ref b1), .val (.ref b2), .val (.long (own_fin (own_st (own_st (own_st (0) q0) q1) q2))), .second, .val (.int (1 : Int32)), .val (.int (own_P p5 (3 : Int32))), .val (.long q2), .second, .val (.ref b23), .val (.long (own_fin (own_st (own_st (own_st (0) q0) q1) q3))), .second] [(.int (XT.cmpL (own_fin (own_st (own_st (own_st (0) q0) q1) q2)) (own_fin (own_st (own_st (own_st (0) q0) q1) q3))))])) _
          refine XS.ifNo X24.here hx rfl (hb hby at_168) rfl (XT.ll_ne_f hc168_26) ?_
          show Steps p.tables e below (T24.setTop (mkF m 171 #[.val (.long q0), .second, .val (.long q1), .second, .val (.long q2), .second, .val (.long q3), .second, .val (.int p4), .val (.int p5), .val (.int (3 : Int32)), .val (.ref b1), .val (.ref b2), .val (.long (own_fin (own_st (own_st (own_st (0) q0) q1) q2))), .second, .val (.int (1 : Int32)), .val (.int (own_P p5 (3 : Int32))), .val (.long q2), .second, .val (.ref b23), .val (.long (own_fin (own_st (own_st (own_st (0) q0) q1) q3))), .second] [])) _
          refine XT.iconstV X24.here hx rfl (1 : Int32) (hb hby at_171) (by decide) ?_
          show Steps p.tables e below (T24.setTop (mkF m 172 #[.val (.long q0), .second, .val (.long q1), .second, .val (.long q2), .second, .val (.long q3), .second, .val (.int p4), .val (.int p5), .val (.int (3 : Int32)), .val (.ref b1), .val (.ref b2), .val (.long (own_fin (own_st (own_st (own_st (0) q0) q1) q2))), .second, .val (.int (1 : Int32)), .val (.int (own_P p5 (3 : Int32))), .val (.long q2), .second, .val (.ref b23), .val (.long (own_fin (own_st (own_st (own_st (0) q0) q1) q3))), .second] [(.int (1 : Int32))])) _
          refine XS.goto X24.here hx rfl (pc0 := 172) (pc' := 176) rfl (hb hby at_172) (by decide) (by decide) ?_
          show Steps p.tables e below (T24.setTop (mkF m 176 #[.val (.long q0), .second, .val (.long q1), .second, .val (.long q2), .second, .val (.long q3), .second, .val (.int p4), .val (.int p5), .val (.int (3 : Int32)), .val (.ref b1), .val (.ref b2), .val (.long (own_fin (own_st (own_st (own_st (0) q0) q1) q2))), .second, .val (.int (1 : Int32)), .val (.int (own_P p5 (3 : Int32))), .val (.long q2), .second, .val (.ref b23), .val (.long (own_fin (own_st (own_st (own_st (0) q0) q1) q3))), .second] [(.int (1 : Int32))])) _
          refine XT.lload X24.here hx rfl (hb hby at_176) rfl ?_
          show Steps p.tables e below (T24.setTop (mkF m 178 #[.val (.long q0), .second, .val (.long q1), .second, .val (.long q2), .second, .val (.long q3), .second, .val (.int p4), .val (.int p5), .val (.int (3 : Int32)), .val (.ref b1), .val (.ref b2), .val (.long (own_fin (own_st (own_st (own_st (0) q0) q1) q2))), .second, .val (.int (1 : Int32)), .val (.int (own_P p5 (3 : Int32))), .val (.long q2), .second, .val (.ref b23), .val (.long (own_fin (own_st (own_st (own_st (0) q0) q1) q3))), .second] [(.long q2), (.int (1 : Int32))])) _
          refine XT.lload X24.here hx rfl (hb hby at_178) rfl ?_
          show Steps p.tables e below (T24.setTop (mkF m 180 #[.val (.long q0), .second, .val (.long q1), .second, .val (.long q2), .second, .val (.long q3), .second, .val (.int p4), .val (.int p5), .val (.int (3 : Int32)), .val (.ref b1), .val (.ref b2), .val (.long (own_fin (own_st (own_st (own_st (0) q0) q1) q2))), .second, .val (.int (1 : Int32)), .val (.int (own_P p5 (3 : Int32))), .val (.long q2), .second, .val (.ref b23), .val (.long (own_fin (own_st (own_st (own_st (0) q0) q1) q3))), .second] [(.long q3), (.long q2), (.int (1 : Int32))])) _
          refine XT.lcmp X24.here hx rfl (hb hby at_180) rfl ?_
          show Steps p.tables e below (T24.setTop (mkF m 181 #[.val (.long q0), .second, .val (.long q1), .second, .val (.long q2), .second, .val (.long q3), .second, .val (.int p4), .val (.int p5), .val (.int (3 : Int32)), .val (.ref b1), .val (.ref b2), .val (.long (own_fin (own_st (own_st (own_st (0) q0) q1) q2))), .second, .val (.int (1 : Int32)), .val (.int (own_P p5 (3 : Int32))), .val (.long q2), .second, .val (.ref b23), .val (.long (own_fin (own_st (own_st (own_st (0) q0) q1) q3))), .second] [(.int (XT.cmpL q2 q3)), (.int (1 : Int32))])) _
          refine XS.ifNo X24.here hx rfl (hb hby at_181) rfl (XT.ll_ne_f (own_inj3_q2 hc168_26)) ?_
          show Steps p.tables e below (T24.setTop (mkF m 184 #[.val (.long q0), .second, .val (.long q1), .second, .val (.long q2), .second, .val (.long q3), .second, .val (.int p4), .val (.int p5), .val (.int (3 : Int32)), .val (.ref b1), .val (.ref b2), .val (.long (own_fin (own_st (own_st (own_st (0) q0) q1) q2))), .second, .val (.int (1 : Int32)), .val (.int (own_P p5 (3 : Int32))), .val (.long q2), .second, .val (.ref b23), .val (.long (own_fin (own_st (own_st (own_st (0) q0) q1) q3))), .second] [(.int (1 : Int32))])) _
          refine XT.iconstV X24.here hx rfl (1 : Int32) (hb hby at_184) (by decide) ?_
          show Steps p.tables e below (T24.setTop (mkF m 185 #[.val (.long q0), .second, .val (.long q1), .second, .val (.long q2), .second, .val (.long q3), .second, .val (.int p4), .val (.int p5), .val (.int (3 : Int32)), .val (.ref b1), .val (.ref b2), .val (.long (own_fin (own_st (own_st (own_st (0) q0) q1) q2))), .second, .val (.int (1 : Int32)), .val (.int (own_P p5 (3 : Int32))), .val (.long q2), .second, .val (.ref b23), .val (.long (own_fin (own_st (own_st (own_st (0) q0) q1) q3))), .second] [(.int (1 : Int32)), (.int (1 : Int32))])) _
          refine XS.goto X24.here hx rfl (pc0 := 185) (pc' := 189) rfl (hb hby at_185) (by decide) (by decide) ?_
          show Steps p.tables e below (T24.setTop (mkF m 189 #[.val (.long q0), .second, .val (.long q1), .second, .val (.long q2), .second, .val (.long q3), .second, .val (.int p4), .val (.int p5), .val (.int (3 : Int32)), .val (.ref b1), .val (.ref b2), .val (.long (own_fin (own_st (own_st (own_st (0) q0) q1) q2))), .second, .val (.int (1 : Int32)), .val (.int (own_P p5 (3 : Int32))), .val (.long q2), .second, .val (.ref b23), .val (.long (own_fin (own_st (own_st (own_st (0) q0) q1) q3))), .second] [(.int (1 : Int32)), (.int (1 : Int32))])) _
          refine XS.icmpNo X24.here hx rfl (hb hby at_189) rfl (XT.ii_ne_f (by decide)) ?_
          show Steps p.tables e below (T24.setTop (mkF m 192 #[.val (.long q0), .second, .val (.long q1), .second, .val (.long q2), .second, .val (.long q3), .second, .val (.int p4), .val (.int p5), .val (.int (3 : Int32)), .val (.ref b1), .val (.ref b2), .val (.long (own_fin (own_st (own_st (own_st (0) q0) q1) q2))), .second, .val (.int (1 : Int32)), .val (.int (own_P p5 (3 : Int32))), .val (.long q2), .second, .val (.ref b23), .val (.long (own_fin (own_st (own_st (own_st (0) q0) q1) q3))), .second] [])) _
          refine XT.iconstV X24.here hx rfl (1 : Int32) (hb hby at_192) (by decide) ?_
          show Steps p.tables e below (T24.setTop (mkF m 193 #[.val (.long q0), .second, .val (.long q1), .second, .val (.long q2), .second, .val (.long q3), .second, .val (.int p4), .val (.int p5), .val (.int (3 : Int32)), .val (.ref b1), .val (.ref b2), .val (.long (own_fin (own_st (own_st (own_st (0) q0) q1) q2))), .second, .val (.int (1 : Int32)), .val (.int (own_P p5 (3 : Int32))), .val (.long q2), .second, .val (.ref b23), .val (.long (own_fin (own_st (own_st (own_st (0) q0) q1) q3))), .second] [(.int (1 : Int32))])) _
          refine XS.goto X24.here hx rfl (pc0 := 193) (pc' := 197) rfl (hb hby at_193) (by decide) (by decide) ?_
          show Steps p.tables e below (T24.setTop (mkF m 197 #[.val (.long q0), .second, .val (.long q1), .second, .val (.long q2), .second, .val (.long q3), .second, .val (.int p4), .val (.int p5), .val (.int (3 : Int32)), .val (.ref b1), .val (.ref b2), .val (.long (own_fin (own_st (own_st (own_st (0) q0) q1) q2))), .second, .val (.int (1 : Int32)), .val (.int (own_P p5 (3 : Int32))), .val (.long q2), .second, .val (.ref b23), .val (.long (own_fin (own_st (own_st (own_st (0) q0) q1) q3))), .second] [(.int (1 : Int32))])) _
          exact k)
        obtain ⟨fs, hr, hrun, hended, hW, hsame⟩ := X24.leave (v := some (.int (1 : Int32))) (fun h => by rw [Bd.returns] at h; cases h)
        refine ⟨_, _, pre0 _ (S27 _ ?_), hrun, hended, _, _, rfl, ?_, ⟨_, rfl⟩, hW, hsame.mono (by decide) (by decide)⟩
        · exact retN X24 hx (t := .boolean) Bd.returns (by simp) (hb hby at_197) hr
        · show Qrm0 Z q0 q1 q2 q3 p4 p5 h0 n0 _ T24.heap _
          rw [e24]
          exact ⟨rfl, N24⟩
      · have S28 : ∀ t, Steps p.tables e below (T24.setTop (mkF m 197 #[.val (.long q0), .second, .val (.long q1), .second, .val (.long q2), .second, .val (.long q3), .second, .val (.int p4), .val (.int p5), .val (.int (3 : Int32)), .val (.ref b1), .val (.ref b2), .val (.long (own_fin (own_st (own_st (own_st (0) q0) q1) q2))), .second, .val (.int (1 : Int32)), .val (.int (own_P p5 (3 : Int32))), .val (.long q2), .second, .val (.ref b23), .val (.long (own_fin (own_st (own_st (own_st (0) q0) q1) q3))), .second] [(.int (1 : Int32))])) t → Steps p.tables e below (s₁.setTop (mkF m 0 #[.val (.long q0), .second, .val (.long q1), .second, .val (.long q2), .second, .val (.long q3), .second, .val (.int p4), .val (.int p5), .unset, .unset, .unset, .unset, .unset, .unset, .unset, .unset, .unset, .unset, .unset, .unset] [])) t := fun t k => S25 t (by
          show Steps p.tables e below (T24.setTop (mkF m 168 #[.val (.long q0), .second, .val (.long q1), .second, .val (.long q2), .second, .val (.long q3), .second, .val (.int p4), .val (.int p5), .val (.int (3 : Int32)), .val (.ref b1), .val (.ref b2), .val (.long (own_fin (own_st (own_st (own_st (0) q0) q1) q2))), .second, .val (.int (1 : Int32)), .val (.int (own_P p5 (3 : Int32))), .val (.long q2), .second, .val (.ref b23), .val (.long (own_fin (own_st (own_st (own_st (0) q0) q1) q3))), .second] [(.int (XT.cmpL (own_fin (own_st (own_st (own_st (0) q0) q1) q2)) (own_fin (own_st (own_st (own_st (0) q0) q1) q3))))])) _
          refine XS.ifYes X24.here hx rfl (pc0 := 168) (pc' := 175) rfl (hb hby at_168) rfl (XT.ll_ne_t hc168_26) (by decide) (by decide) ?_
          show Steps p.tables e below (T24.setTop (mkF m 175 #[.val (.long q0), .second, .val (.long q1), .second, .val (.long q2), .second, .val (.long q3), .second, .val (.int p4), .val (.int p5), .val (.int (3 : Int32)), .val (.ref b1), .val (.ref b2), .val (.long (own_fin (own_st (own_st (own_st (0) q0) q1) q2))), .second, .val (.int (1 : Int32)), .val (.int (own_P p5 (3 : Int32))), .val (.long q2), .second, .val (.ref b23), .val (.long (own_fin (own_st (own_st (own_st (0) q0) q1) q3))), .second] [])) _
          refine XT.iconstV X24.here hx rfl (0 : Int32) (hb hby at_175) (by decide) ?_
          show Steps p.tables e below (T24.setTop (mkF m 176 #[.val (.long q0), .second, .val (.long q1), .second, .val (.long q2), .second, .val (.long q3), .second, .val (.int p4), .val (.int p5), .val (.int (3 : Int32)), .val (.ref b1), .val (.ref b2), .val (.long (own_fin (own_st (own_st (own_st (0) q0) q1) q2))), .second, .val (.int (1 : Int32)), .val (.int (own_P p5 (3 : Int32))), .val (.long q2), .second, .val (.ref b23), .val (.long (own_fin (own_st (own_st (own_st (0) q0) q1) q3))), .second] [(.int (0 : Int32))])) _
          refine XT.lload X24.here hx rfl (hb hby at_176) rfl ?_
          show Steps p.tables e below (T24.setTop (mkF m 178 #[.val (.long q0), .second, .val (.long q1), .second, .val (.long q2), .second, .val (.long q3), .second, .val (.int p4), .val (.int p5), .val (.int (3 : Int32)), .val (.ref b1), .val (.ref b2), .val (.long (own_fin (own_st (own_st (own_st (0) q0) q1) q2))), .second, .val (.int (1 : Int32)), .val (.int (own_P p5 (3 : Int32))), .val (.long q2), .second, .val (.ref b23), .val (.long (own_fin (own_st (own_st (own_st (0) q0) q1) q3))), .second] [(.long q2), (.int (0 : Int32))])) _
          refine XT.lload X24.here hx rfl (hb hby at_178) rfl ?_
          show Steps p.tables e below (T24.setTop (mkF m 180 #[.val (.long q0), .second, .val (.long q1), .second, .val (.long q2), .second, .val (.long q3), .second, .val (.int p4), .val (.int p5), .val (.int (3 : Int32)), .val (.ref b1), .val (.ref b2), .val (.long (own_fin (own_st (own_st (own_st (0) q0) q1) q2))), .second, .val (.int (1 : Int32)), .val (.int (own_P p5 (3 : Int32))), .val (.long q2), .second, .val (.ref b23), .val (.long (own_fin (own_st (own_st (own_st (0) q0) q1) q3))), .second] [(.long q3), (.long q2), (.int (0 : Int32))])) _
          refine XT.lcmp X24.here hx rfl (hb hby at_180) rfl ?_
          show Steps p.tables e below (T24.setTop (mkF m 181 #[.val (.long q0), .second, .val (.long q1), .second, .val (.long q2), .second, .val (.long q3), .second, .val (.int p4), .val (.int p5), .val (.int (3 : Int32)), .val (.ref b1), .val (.ref b2), .val (.long (own_fin (own_st (own_st (own_st (0) q0) q1) q2))), .second, .val (.int (1 : Int32)), .val (.int (own_P p5 (3 : Int32))), .val (.long q2), .second, .val (.ref b23), .val (.long (own_fin (own_st (own_st (own_st (0) q0) q1) q3))), .second] [(.int (XT.cmpL q2 q3)), (.int (0 : Int32))])) _
          refine XS.ifYes X24.here hx rfl (pc0 := 181) (pc' := 188) rfl (hb hby at_181) rfl (XT.ll_ne_t (fun q => hc168_26 (by rw [q]))) (by decide) (by decide) ?_
          show Steps p.tables e below (T24.setTop (mkF m 188 #[.val (.long q0), .second, .val (.long q1), .second, .val (.long q2), .second, .val (.long q3), .second, .val (.int p4), .val (.int p5), .val (.int (3 : Int32)), .val (.ref b1), .val (.ref b2), .val (.long (own_fin (own_st (own_st (own_st (0) q0) q1) q2))), .second, .val (.int (1 : Int32)), .val (.int (own_P p5 (3 : Int32))), .val (.long q2), .second, .val (.ref b23), .val (.long (own_fin (own_st (own_st (own_st (0) q0) q1) q3))), .second] [(.int (0 : Int32))])) _
          refine XT.iconstV X24.here hx rfl (0 : Int32) (hb hby at_188) (by decide) ?_
          show Steps p.tables e below (T24.setTop (mkF m 189 #[.val (.long q0), .second, .val (.long q1), .second, .val (.long q2), .second, .val (.long q3), .second, .val (.int p4), .val (.int p5), .val (.int (3 : Int32)), .val (.ref b1), .val (.ref b2), .val (.long (own_fin (own_st (own_st (own_st (0) q0) q1) q2))), .second, .val (.int (1 : Int32)), .val (.int (own_P p5 (3 : Int32))), .val (.long q2), .second, .val (.ref b23), .val (.long (own_fin (own_st (own_st (own_st (0) q0) q1) q3))), .second] [(.int (0 : Int32)), (.int (0 : Int32))])) _
          refine XS.icmpNo X24.here hx rfl (hb hby at_189) rfl (XT.ii_ne_f (by decide)) ?_
          show Steps p.tables e below (T24.setTop (mkF m 192 #[.val (.long q0), .second, .val (.long q1), .second, .val (.long q2), .second, .val (.long q3), .second, .val (.int p4), .val (.int p5), .val (.int (3 : Int32)), .val (.ref b1), .val (.ref b2), .val (.long (own_fin (own_st (own_st (own_st (0) q0) q1) q2))), .second, .val (.int (1 : Int32)), .val (.int (own_P p5 (3 : Int32))), .val (.long q2), .second, .val (.ref b23), .val (.long (own_fin (own_st (own_st (own_st (0) q0) q1) q3))), .second] [])) _
          refine XT.iconstV X24.here hx rfl (1 : Int32) (hb hby at_192) (by decide) ?_
          show Steps p.tables e below (T24.setTop (mkF m 193 #[.val (.long q0), .second, .val (.long q1), .second, .val (.long q2), .second, .val (.long q3), .second, .val (.int p4), .val (.int p5), .val (.int (3 : Int32)), .val (.ref b1), .val (.ref b2), .val (.long (own_fin (own_st (own_st (own_st (0) q0) q1) q2))), .second, .val (.int (1 : Int32)), .val (.int (own_P p5 (3 : Int32))), .val (.long q2), .second, .val (.ref b23), .val (.long (own_fin (own_st (own_st (own_st (0) q0) q1) q3))), .second] [(.int (1 : Int32))])) _
          refine XS.goto X24.here hx rfl (pc0 := 193) (pc' := 197) rfl (hb hby at_193) (by decide) (by decide) ?_
          show Steps p.tables e below (T24.setTop (mkF m 197 #[.val (.long q0), .second, .val (.long q1), .second, .val (.long q2), .second, .val (.long q3), .second, .val (.int p4), .val (.int p5), .val (.int (3 : Int32)), .val (.ref b1), .val (.ref b2), .val (.long (own_fin (own_st (own_st (own_st (0) q0) q1) q2))), .second, .val (.int (1 : Int32)), .val (.int (own_P p5 (3 : Int32))), .val (.long q2), .second, .val (.ref b23), .val (.long (own_fin (own_st (own_st (own_st (0) q0) q1) q3))), .second] [(.int (1 : Int32))])) _
          exact k)
        obtain ⟨fs, hr, hrun, hended, hW, hsame⟩ := X24.leave (v := some (.int (1 : Int32))) (fun h => by rw [Bd.returns] at h; cases h)
        refine ⟨_, _, pre0 _ (S28 _ ?_), hrun, hended, _, _, rfl, ?_, ⟨_, rfl⟩, hW, hsame.mono (by decide) (by decide)⟩
        · exact retN X24 hx (t := .boolean) Bd.returns (by simp) (hb hby at_197) hr
        · show Qrm0 Z q0 q1 q2 q3 p4 p5 h0 n0 _ T24.heap _
          rw [e24]
          exact ⟨rfl, N24⟩
theorem rm0 (l : Launch) (Z : State) (av0 : Array Value) (hw : ∀ d ∈ tables_1, d.before av0 Z = true) (ws : List Jvm.Cond) (q0 q1 q2 q3 : Int64) (p4 p5 : Int32) (h0 : Heap) (n0 : Nat) (Z0 : n0 ≤ h0.size) :
    MetFree l x (head1 (Jvm.Cond.code x code maxLocals ret :: ws) room_1) (fun a U => a = #[(.long q0), (.long q1), (.long q2), (.long q3), (.int p4), (.int p5)] ∧ Z.Warmed39 U.vm ∧ U.heap = h0) (fun _ _ _ _ _ => True) (fun _ U o U' => ∃ v L, o = .returned v ∧ Qrm0 Z q0 q1 q2 q3 p4 p5 h0 n0 v U'.heap L ∧ FrameEnd U o U' L room_1.cells room_1.slots) := by
  rcases own_and3 p4 with h | h | h | h
  · exact rm0_0 l Z av0 hw ws q0 q1 q2 q3 p4 p5 h0 n0 Z0 h
  · exact rm0_1 l Z av0 hw ws q0 q1 q2 q3 p4 p5 h0 n0 Z0 h
  · exact rm0_2 l Z av0 hw ws q0 q1 q2 q3 p4 p5 h0 n0 Z0 h
  · exact rm0_3 l Z av0 hw ws q0 q1 q2 q3 p4 p5 h0 n0 Z0 h
set_option maxRecDepth 65536 in
set_option maxHeartbeats 40000000 in
theorem comes_1 {Post : Tables → Env → Array Value → State → Outcome → State → Prop} (hpost : ∀ tb e args s v u, (limb_1_1.after args s (.returned v) u = true ∧ limb_1_2.after args s (.returned v) u = true ∧ True) → FrameEnd s (.returned v) u (Jvm.fieldLocs frame_1_writes args s ++ Jvm.arrayLocs frame_1_arrays args s ++ Jvm.staticLocs frame_1_statics s) 16 128 → Post tb e args s (.returned v) u) :
    ArmFor flags0 classFile x code maxLocals ret World_1 tables_1 room_1 Calls_1 rest_1 Pre_1 Post := by
  intro l hfl _ _ p e ha hc hk s m args below hf hA hF happ hP
  obtain ⟨hcalls, hrest, hpre⟩ := hP
  obtain ⟨-, -, -, hnamed, -, -, -, hat⟩ := (Spec.applies_iff hf).mp happ
  obtain ⟨hg, hn⟩ := and_e (Cond.before_iff.mp (show (Jvm.Cond.and given_1 narrow_1).before args s = true from hpre))
  obtain ⟨g0, r0⟩ := and_e hg
  obtain ⟨g1, r1⟩ := and_e r0
  obtain ⟨g2, r2⟩ := and_e r1
  obtain ⟨g3, r3⟩ := and_e r2
  obtain ⟨g4, r4⟩ := and_e r3
  obtain ⟨g5, r5⟩ := and_e r4
  obtain ⟨w0, w1, w2, w3, w4, w5, rfl⟩ : ∃ w0 w1 w2 w3 w4 w5 : Value, args = #[w0, w1, w2, w3, w4, w5] := by
    have hs : args.size = 6 := by simpa [Cond.value, given_1] using g0
    obtain ⟨L⟩ := args
    match L, hs with
    | [w0, w1, w2, w3, w4, w5], _ => exact ⟨w0, w1, w2, w3, w4, w5, rfl⟩
  have hw := fun d (hd : d ∈ tables_1) => atoms_spec (ws := Jvm.Cond.code x code maxLocals ret :: tables_1) hat d (List.mem_cons_of_mem _ hd)
  have hfit : Fit s := fun {y c} hc i hi => by
    obtain ⟨ha, rfl⟩ := Array.getElem?_eq_some_iff.mp hc
    have q := List.all_eq_true.mp ((Array.all_eq_true_iff_forall_mem.mp hF) _ (Array.getElem_mem ha)) i (List.mem_range.mpr hi)
    simpa [Array.getElem?_eq_getElem hi] using q
  obtain ⟨i0, ei0⟩ := isL_v g1
  obtain rfl : w0 = (.long i0) := Option.some.inj ei0
  obtain ⟨i1, ei1⟩ := isL_v g2
  obtain rfl : w1 = (.long i1) := Option.some.inj ei1
  obtain ⟨i2, ei2⟩ := isL_v g3
  obtain rfl : w2 = (.long i2) := Option.some.inj ei2
  obtain ⟨i3, ei3⟩ := isL_v g4
  obtain rfl : w3 = (.long i3) := Option.some.inj ei3
  obtain ⟨i4, ei4⟩ := is_v g5
  obtain rfl : w4 = (.int i4) := Option.some.inj ei4
  obtain ⟨i5, ei5⟩ := is_v r5
  obtain rfl : w5 = (.int i5) := Option.some.inj ei5
  obtain ⟨n, o, h1, h2, h3, _, L, rfl, ⟨rfl, N⟩, hq⟩ := rm0 l s _ hw tables_1 i0 i1 i2 i3 i4 i5 s.heap s.heap.size (Nat.le_refl _)  p e ha hc hk s m _ below hf ((Spec.applies_iff_loose hf).mp happ).1 ⟨rfl, State.Warmed39.refl s, rfl⟩ trivial
  refine ⟨n, _, h1, h2, h3, hpost _ _ _ _ _ _ ⟨Cond.after_iff.mpr rfl, Cond.after_iff.mpr (eq_i res_at (Term.int_eval (1)) rfl), trivial⟩ ⟨hq.1, hq.2.1, (hq.2.2.sift fun y hy => Or.inr (N y hy)).mono (by decide) (by decide)⟩⟩
theorem main_1_1 : Claimed_1_1 := comes_1 fun _ _ _ _ _ _ h hF => ⟨h.1, hF⟩
theorem main_1_2 : Claimed_1_2 := comes_1 fun _ _ _ _ _ _ h hF => ⟨h.2.1, hF⟩
end Jvm.Pilot.@@N@@
namespace Jvm.Pilot.@@N@@
open Jvm Jvm.ClassFile Sem Op Lib Jvm.Free Jvm.Stand Jvm.Pilot.@@N@@.Jvm.D
/-! MADE BY PROGRAM (witnessworld.py) out of the Statement's table words and the real class files: 11 classes; the members and pool entries that the words name. The judged class is class 1, her method 3. -/
namespace start1
open Jvm.ClassFile
def u (s : String) : CpInfo := .utf8 (stringToUtf16 s)
/-- a pool by its gaps: so many unusable entries, then the entry; so many at the end -/
def gap : Nat → List CpInfo → List CpInfo
  | 0, r => r
  | n + 1, r => .unusable :: gap n r
def poolList (es : List (Nat × CpInfo)) (last : Nat) : List CpInfo := es.foldr (fun e r => gap e.1 (e.2 :: r)) (gap last [])
def pool (es : List (Nat × CpInfo)) (last : Nat) : Array CpInfo := ⟨poolList es last⟩
def fileOf (pool : Array CpInfo) (this : Nat) (attrs : Array Attribute := #[]) (ms : Array MethodInfo := #[]) (fl : Nat := 33) (sup : Nat := 0) (ifs : Array Nat := #[]) (fds : Array FieldInfo := #[]) : ClassFile where
  minorVersion := 0
  majorVersion := 65
  constantPool := pool
  accessFlags := fl
  thisClass := this
  superClass := sup
  interfaces := ifs
  fields := fds
  methods := ms
  attributes := attrs
def plain (name : String) (sup : Option ClassId) : Class where
  name := name
  kind := .ordinary
  loader := none
  accessFlags := 33
  super := sup
  interfaces := #[]
  cf := none
  fields := #[]
  methods := #[]
  instanceTypes := #[]
  staticTypes := #[]
  resolved := #[]
  callSites := []
  init := .initialized
  statics := none
  mirror := none

def pool0 : Array CpInfo := pool [(5, u "<init>"), (0, u "()V"), (1, .class_ 10), (1, u "java/lang/Object")] 113

def k0m0 : Method := { name := "<init>", desc := "()V", sig := { parameters := [], returnType := none }, accessFlags := 1, code := none }
/-- java/lang/Object -/
def k0 : Class := { plain "java/lang/Object" none with
  accessFlags := 33
  interfaces := #[]
  cf := some (fileOf pool0 8 #[] #[{ accessFlags := 1, nameIndex := 5, descriptorIndex := 6, attributes := #[] }] 33 0 #[] #[])
  fields := #[]
  methods := #[k0m0]
  instanceTypes := #[]
  staticTypes := #[]
  resolved := Array.replicate 124 none
  statics := none }

def pool1 : Array CpInfo := pool [(2, .class_ 4), (1, u "java/lang/Object"), (0, u "<init>"), (0, u "()V"), (0, .methodref 8 9), (0, .class_ 10), (0, .nameAndType 11 12), (0, u "com/example/bare_refinement/barerefinement/exploration/StateSpaceHashPinLaw"), (0, u "make"), (0, u "(IJJJ)[J"), (0, .methodref 14 15), (0, .class_ 16), (0, .nameAndType 17 18), (0, u "com/example/bare_refinement/barerefinement/exploration/StateSpace"), (0, u "hash"), (0, u "([J)J"), (0, .methodref 8 20), (0, .nameAndType 21 22), (0, u "unchanged"), (0, u "([JIJJJ)Z"), (0, .integer 2147483647), (5, u "law"), (0, u "(JJJJII)Z")] 2

def k1m0 : Method := { name := "<init>", desc := "()V", sig := { parameters := [], returnType := none }, accessFlags := 2, code := none }
def k1c1 : Code := { maxStack := 4, maxLocals := 8, code := method_2_code, exceptionTable := #[], attributes := #[] }
def k1m1 : Method := { name := "make", desc := "(IJJJ)[J", sig := { parameters := [.int, .long, .long, .long], returnType := some (.array .long) }, accessFlags := 10, code := some k1c1 }
def k1c2 : Code := { maxStack := 4, maxLocals := 8, code := method_3_code, exceptionTable := #[], attributes := #[] }
def k1m2 : Method := { name := "unchanged", desc := "([JIJJJ)Z", sig := { parameters := [(.array .long), .int, .long, .long, .long], returnType := some .boolean }, accessFlags := 10, code := some k1c2 }
def k1c3 : Code := { maxStack := 8, maxLocals := 22, code := code, exceptionTable := #[], attributes := #[] }
def k1m3 : Method := { name := "law", desc := "(JJJJII)Z", sig := { parameters := [.long, .long, .long, .long, .int, .int], returnType := some .boolean }, accessFlags := 9, code := some k1c3 }
/-- com/example/bare_refinement/barerefinement/exploration/StateSpaceHashPinLaw -/
def k1 : Class := { plain "com/example/bare_refinement/barerefinement/exploration/StateSpaceHashPinLaw" (some 0) with
  accessFlags := 49
  interfaces := #[]
  cf := some (fileOf pool1 8 #[] #[{ accessFlags := 2, nameIndex := 5, descriptorIndex := 6, attributes := #[] }, { accessFlags := 10, nameIndex := 11, descriptorIndex := 12, attributes := #[] }, { accessFlags := 10, nameIndex := 21, descriptorIndex := 22, attributes := #[] }, { accessFlags := 9, nameIndex := 29, descriptorIndex := 30, attributes := #[] }] 49 2 #[] #[])
  fields := #[]
  methods := #[k1m0, k1m1, k1m2, k1m3]
  instanceTypes := #[]
  staticTypes := #[]
  resolved := Array.replicate 33 none
  statics := none }

def pool2 : Array CpInfo := pool [(4, .class_ 6), (1, u "java/lang/Object"), (6, .class_ 15), (1, u "com/example/bare_refinement/barerefinement/exploration/StateSpace"), (0, u "numbers"), (0, u "Ljava/util/Map;"), (5, u "numbered"), (0, u "Ljava/util/List;"), (2, u "size"), (0, u "I"), (3, u "[Z"), (4, u "integers"), (2, u "width"), (2, u "longs"), (0, u "[J"), (2, u "parents"), (0, u "[I"), (2, u "events"), (2, u "table"), (8, u "shift"), (2, u "added"), (49, u "hash"), (0, u "([J)J"), (0, .long 11400714819323198485), (1, .long 18397679294719823053), (55, u "MAXIMUM_STATES"), (1, u "MAXIMUM_LENGTH"), (0, u "FIRST_CAPACITY")] 32

def k2c0 : Code := { maxStack := 5, maxLocals := 8, code := prog_59_method_9_code, exceptionTable := #[], attributes := #[] }
def k2m0 : Method := { name := "hash", desc := "([J)J", sig := { parameters := [(.array .long)], returnType := some .long }, accessFlags := 8, code := some k2c0 }
/-- com/example/bare_refinement/barerefinement/exploration/StateSpace -/
def k2 : Class := { plain "com/example/bare_refinement/barerefinement/exploration/StateSpace" (some 0) with
  accessFlags := 48
  interfaces := #[]
  cf := some (fileOf pool2 13 #[] #[{ accessFlags := 8, nameIndex := 116, descriptorIndex := 117, attributes := #[] }] 48 4 #[] #[{ accessFlags := 26, nameIndex := 176, descriptorIndex := 28, attributes := #[] }, { accessFlags := 26, nameIndex := 178, descriptorIndex := 28, attributes := #[] }, { accessFlags := 26, nameIndex := 179, descriptorIndex := 28, attributes := #[] }, { accessFlags := 18, nameIndex := 37, descriptorIndex := 32, attributes := #[] }, { accessFlags := 18, nameIndex := 40, descriptorIndex := 28, attributes := #[] }, { accessFlags := 18, nameIndex := 16, descriptorIndex := 17, attributes := #[] }, { accessFlags := 18, nameIndex := 23, descriptorIndex := 24, attributes := #[] }, { accessFlags := 2, nameIndex := 43, descriptorIndex := 44, attributes := #[] }, { accessFlags := 2, nameIndex := 47, descriptorIndex := 48, attributes := #[] }, { accessFlags := 2, nameIndex := 51, descriptorIndex := 48, attributes := #[] }, { accessFlags := 2, nameIndex := 27, descriptorIndex := 28, attributes := #[] }, { accessFlags := 2, nameIndex := 54, descriptorIndex := 44, attributes := #[] }, { accessFlags := 2, nameIndex := 63, descriptorIndex := 28, attributes := #[] }, { accessFlags := 18, nameIndex := 66, descriptorIndex := 44, attributes := #[] }])
  fields := #[{ name := "MAXIMUM_STATES", type := .int, accessFlags := 26, slot := 0, constantValue := 0 }, { name := "MAXIMUM_LENGTH", type := .int, accessFlags := 26, slot := 1, constantValue := 0 }, { name := "FIRST_CAPACITY", type := .int, accessFlags := 26, slot := 2, constantValue := 0 }, { name := "integers", type := (.array .boolean), accessFlags := 18, slot := 0, constantValue := 0 }, { name := "width", type := .int, accessFlags := 18, slot := 1, constantValue := 0 }, { name := "numbers", type := (.object "java/util/Map"), accessFlags := 18, slot := 2, constantValue := 0 }, { name := "numbered", type := (.object "java/util/List"), accessFlags := 18, slot := 3, constantValue := 0 }, { name := "longs", type := (.array .long), accessFlags := 2, slot := 4, constantValue := 0 }, { name := "parents", type := (.array .int), accessFlags := 2, slot := 5, constantValue := 0 }, { name := "events", type := (.array .int), accessFlags := 2, slot := 6, constantValue := 0 }, { name := "size", type := .int, accessFlags := 2, slot := 7, constantValue := 0 }, { name := "table", type := (.array .long), accessFlags := 2, slot := 8, constantValue := 0 }, { name := "shift", type := .int, accessFlags := 2, slot := 9, constantValue := 0 }, { name := "added", type := (.array .long), accessFlags := 18, slot := 10, constantValue := 0 }]
  methods := #[k2m0]
  instanceTypes := #[(.array .boolean), .int, (.object "java/util/Map"), (.object "java/util/List"), (.array .long), (.array .int), (.array .int), .int, (.array .long), .int, (.array .long)]
  staticTypes := #[.int, .int, .int]
  resolved := Array.replicate 212 none
  statics := none }

def pool3 : Array CpInfo := pool [(1, u "java/lang/Cloneable"), (0, .class_ 1), (0, u "java/lang/Object"), (0, .class_ 3)] 3

/-- java/lang/Cloneable -/
def k3 : Class := { plain "java/lang/Cloneable" (some 0) with
  accessFlags := 1537
  interfaces := #[]
  cf := some (fileOf pool3 2 #[] #[] 1537 4 #[] #[])
  fields := #[]
  methods := #[]
  instanceTypes := #[]
  staticTypes := #[]
  resolved := Array.replicate 8 none
  statics := none }

def pool4 : Array CpInfo := pool [(1, u "java/io/Serializable"), (0, .class_ 1), (0, u "java/lang/Object"), (0, .class_ 3)] 3

/-- java/io/Serializable -/
def k4 : Class := { plain "java/io/Serializable" (some 0) with
  accessFlags := 1537
  interfaces := #[]
  cf := some (fileOf pool4 2 #[] #[] 1537 4 #[] #[])
  fields := #[]
  methods := #[]
  instanceTypes := #[]
  staticTypes := #[]
  resolved := Array.replicate 8 none
  statics := none }

/-- the primitive byte -/
def k5 : Class := { plain "byte" none with kind := .primitive 'B', accessFlags := 0x411 }
/-- [B -/
def k6 : Class := { plain "[B" (some 0) with kind := .array 5 .byte, interfaces := #[3, 4], accessFlags := 1041 }

/-- the primitive int -/
def k7 : Class := { plain "int" none with kind := .primitive 'I', accessFlags := 0x411 }
/-- [I -/
def k8 : Class := { plain "[I" (some 0) with kind := .array 7 .int, interfaces := #[3, 4], accessFlags := 1041 }

/-- the primitive long -/
def k9 : Class := { plain "long" none with kind := .primitive 'J', accessFlags := 0x411 }
/-- [J -/
def k10 : Class := { plain "[J" (some 0) with kind := .array 9 .long, interfaces := #[3, 4], accessFlags := 1041 }

def heap : Heap := #[]
def classes : Array Class := #[k0, k1, k2, k3, k4, k5, k6, k7, k8, k9, k10]
def interned : List (Array UInt16 × Addr) := []
def slotsUsed : Nat := 0
def theMethod : MethodId := ⟨1, 3⟩
def args0 : Array Value := #[.long 1, .long 2, .long 3, .long 4, .int 3, .int 1]
def aboutOver (below : List Frame) : State where
  vm := { classes := classes, interned := interned.toArray }
  heap := heap
  slotsUsed := slotsUsed
  threads := #[{ frames := .invoking theMethod args0 :: below }]
def below0 : List Frame := [.native { method := ⟨0, 0⟩, args := #[] }]
def about1 : State := aboutOver below0
def p0 : Program := .bare "" "" ""
def e0 : Env := launch0.env 0 0 0
theorem w_frames : about1.frames = Frame.invoking theMethod args0 :: below0 := rfl
set_option maxRecDepth 65536 in
theorem w_args : argsFit about1.vm theMethod args0 = true := by decide +kernel
set_option maxRecDepth 65536 in
theorem w_heap : heapFits about1 = true := by decide +kernel
set_option maxRecDepth 65536 in
theorem w_runnable : about1.curStatus? = some .runnable := by decide +kernel
set_option maxRecDepth 65536 in
theorem w_alone : about1.alone = true := by decide +kernel
set_option maxRecDepth 65536 in
theorem w_named : about1.methodNamed? x = some theMethod := by decide +kernel
set_option maxRecDepth 65536 in
theorem w_hears : about1.hears theMethod below0 = true := by decide +kernel
set_option maxRecDepth 65536 in
theorem w_ripe : about1.ripe theMethod args0 below0 = true := by decide +kernel
theorem w_running : about1.status = .running := rfl
set_option maxRecDepth 65536 in
theorem w_room : about1.hasRoom e0.platform room_1 = true :=
  launch0.hasRoom_least _ room_1 (by decide +kernel) (by decide +kernel) (by decide +kernel) (by decide +kernel) (by decide +kernel) (by decide +kernel)
theorem allAtoms_all (ts : List Jvm.Cond) (a : Array Jvm.Value) (st : Jvm.State) : (allAtoms ts).before a st = ts.all (fun c => c.before a st) := by
  induction ts with
  | nil => rfl
  | cons c t ih =>
    show (Jvm.Cond.and c (allAtoms t)).before a st = _
    rw [Jvm.Cond.before_and, ih, List.all_cons]
def words1 : List Jvm.Cond := Jvm.Cond.code x code maxLocals ret :: tables_1
/-- a 'code' word, met by the world's own term for the bytes: nothing is compared byte by byte -/
theorem code_word {y : MethodName} {bytes : ByteArray} {mx : Nat} {rt : Option FieldType} {a : Array Value} {s : State} {m : MethodId} {meth : Method} {c : Code} (h1 : s.methodNamed? y = some m) (h2 : s.vm.method? m = some meth) (h3 : meth.code = some c) (h4 : c.code = bytes)
    (h5 : (c.maxLocals == mx && c.exceptionTable.isEmpty && decide (c.maxStack ≤ mostOperands) && decide (meth.sig.returnType = rt) && !meth.locks && decide (parseMethodDescriptor y.desc = some meth.sig)) = true) : (Jvm.Cond.code y bytes mx rt).before a s = true := by
  simp only [Bool.and_eq_true, beq_iff_eq, Bool.not_eq_true', decide_eq_true_eq] at h5
  obtain ⟨⟨⟨⟨⟨g1, g2⟩, g3⟩, g4⟩, g5⟩, g6⟩ := h5
  simp [Cond.before, Cond.holds, Cond.value, h1, h2, h3, h4, g1, g2, g3, g4, g5, g6]
def isCode : Jvm.Cond → Bool
  | .code _ _ _ _ => true
  | _ => false
theorem all_split {L : List Jvm.Cond} {P : Jvm.Cond → Bool} (h1 : L.all (fun c => isCode c || P c) = true) (h2 : ∀ c ∈ L.filter isCode, P c = true) : L.all P = true := by
  refine List.all_eq_true.mpr fun c hc => ?_
  have h := List.all_eq_true.mp h1 c hc
  rcases Bool.eq_false_or_eq_true (isCode c) with hi | hi
  · exact h2 c (List.mem_filter.mpr ⟨hc, hi⟩)
  · simpa [hi] using h
set_option maxRecDepth 65536 in
theorem w_c0 : (Jvm.Cond.code x code maxLocals ret).before args0 about1 = true := code_word (m := ⟨1, 3⟩) (meth := k1m3) (c := k1c3) (by decide +kernel) rfl rfl rfl (by decide +kernel)
set_option maxRecDepth 65536 in
theorem w_c1 : (Jvm.Cond.code ({ cls := "com/example/bare_refinement/barerefinement/exploration/StateSpaceHashPinLaw", name := "make", desc := "(IJJJ)[J" } : Jvm.MethodName) method_2_code (8 : Nat) (Option.some (Jvm.ClassFile.FieldType.array Jvm.ClassFile.FieldType.long))).before args0 about1 = true := code_word (m := ⟨1, 1⟩) (meth := k1m1) (c := k1c1) (by decide +kernel) rfl rfl rfl (by decide +kernel)
set_option maxRecDepth 65536 in
theorem w_c2 : (Jvm.Cond.code ({ cls := "com/example/bare_refinement/barerefinement/exploration/StateSpace", name := "hash", desc := "([J)J" } : Jvm.MethodName) prog_59_method_9_code (8 : Nat) (Option.some Jvm.ClassFile.FieldType.long)).before args0 about1 = true := code_word (m := ⟨2, 0⟩) (meth := k2m0) (c := k2c0) (by decide +kernel) rfl rfl rfl (by decide +kernel)
set_option maxRecDepth 65536 in
theorem w_c3 : (Jvm.Cond.code ({ cls := "com/example/bare_refinement/barerefinement/exploration/StateSpaceHashPinLaw", name := "unchanged", desc := "([JIJJJ)Z" } : Jvm.MethodName) method_3_code (8 : Nat) (Option.some Jvm.ClassFile.FieldType.boolean)).before args0 about1 = true := code_word (m := ⟨1, 2⟩) (meth := k1m2) (c := k1c2) (by decide +kernel) rfl rfl rfl (by decide +kernel)
def codes1 : List Jvm.Cond := [Jvm.Cond.code x code maxLocals ret, Jvm.Cond.code ({ cls := "com/example/bare_refinement/barerefinement/exploration/StateSpaceHashPinLaw", name := "make", desc := "(IJJJ)[J" } : Jvm.MethodName) method_2_code (8 : Nat) (Option.some (Jvm.ClassFile.FieldType.array Jvm.ClassFile.FieldType.long)), Jvm.Cond.code ({ cls := "com/example/bare_refinement/barerefinement/exploration/StateSpace", name := "hash", desc := "([J)J" } : Jvm.MethodName) prog_59_method_9_code (8 : Nat) (Option.some Jvm.ClassFile.FieldType.long), Jvm.Cond.code ({ cls := "com/example/bare_refinement/barerefinement/exploration/StateSpaceHashPinLaw", name := "unchanged", desc := "([JIJJJ)Z" } : Jvm.MethodName) method_3_code (8 : Nat) (Option.some Jvm.ClassFile.FieldType.boolean)]
set_option maxRecDepth 65536 in
theorem codes_eq : words1.filter isCode = codes1 := rfl
theorem w_codes : ∀ c ∈ words1.filter isCode, c.before args0 about1 = true := by
  rw [codes_eq]
  intro c hc
  simp only [codes1, List.mem_cons, List.not_mem_nil, or_false] at hc
  rcases hc with rfl | rfl | rfl | rfl
  · exact w_c0
  · exact w_c1
  · exact w_c2
  · exact w_c3
set_option maxRecDepth 65536 in
theorem w_t1 : words1.all (fun c => isCode c || c.before args0 about1) = true := by decide +kernel
theorem w_tables : (allAtoms (Jvm.Cond.code x code maxLocals ret :: tables_1)).before args0 about1 = true := by
  rw [allAtoms_all]
  show words1.all (fun c => c.before args0 about1) = true
  refine all_split ?_ w_codes
  rw [w_t1]
set_option maxRecDepth 65536 in
theorem w_case : (Jvm.Cond.and given_1 narrow_1).before args0 about1 = true := by decide +kernel
theorem w_applies : (headSpec (Jvm.Cond.code x code maxLocals ret :: tables_1) room_1).applies x e0.platform about1 = true :=
  (Spec.applies_iff w_frames).mpr ⟨w_running, w_runnable, w_alone, w_named, w_hears, w_ripe, w_room, w_tables⟩
theorem atStart : AtStart classFile x code maxLocals ret World_1 tables_1 room_1 Calls_1 rest_1 Pre_1 launch0 p0 e0 about1 theMethod args0 below0 :=
  ⟨lists_1, trivial, launch0.admits_env _ _ _, launch0.least_env, fairChoices_fair.cas, fairChoices_fair.clock, w_frames, w_args, w_heap, w_applies, trivial, trivial, w_case⟩
end start1
theorem witness_1 : WitnessClaimed_1 := ⟨start1.p0, start1.e0, start1.about1, start1.theMethod, start1.args0, start1.below0, start1.atStart⟩
end Jvm.Pilot.@@N@@
