import JvmDerived
import JvmDerived.Pilot.@@N@@Statement
import JvmDerived.Pilot.@@N@@Code
set_option linter.unusedVariables false
set_option linter.unusedSimpArgs false
namespace Jvm.RoadKit
open Sem ClassFile Op Lib Jvm.Stand Jvm.Free Jvm.LawKit
section New
variable {p : Program} {l : Launch} {e : Env} {R : Room} {s : State} {m : MethodId} {args : Array Value} {below : List Frame} {meth : Method} {c : Code} {T : State} {locs : List Loc} {cells slots : Nat}
theorem retI (X : Stand p l e R s m args below meth c T locs cells slots) (hx : p.tables.exec = Jvm.exec) {pc : Nat} {Ls : Array Slot} {z : Int32} {rest : List Value} (hret : meth.sig.returnType = some .int) (hd : decode c.code pc = .ok (.ireturn, 1)) {fs : List Frame}
    (hl : ∀ (f : JFrame) (acts : List Action), f.method = m → f.locked = none → f.entered = [] → (doReturn e (T.setTop f) acts (some (.int z))).1 = T.setFrames fs) : Steps p.tables e below (T.setTop (mkF m pc Ls (.int z :: rest))) (T.setFrames fs) := by
  have hm' : T.vm.method? m = some meth := X.method'
  have hn : narrow .int (.int z) = .int z := rfl
  show Steps p.tables e below (T.setTop { method := m, pc := pc, locals := Ls, stack := _ :: rest, locked := none }) _
  jvm_step X.here [X.here.top, hx, hd, hm', hret, hn]
  first | (intro acts; rw [hl _ acts rfl rfl rfl]) | rw [hl _ _ rfl rfl rfl]
  exact Steps.refl _
end New
end Jvm.RoadKit
namespace Jvm.Pilot.@@N@@
open Jvm Jvm.ClassFile Sem Op Lib Jvm.Free Jvm.Stand Jvm.LawKit Jvm.RoadKit Bundle Jvm.Pilot.@@N@@.Jvm.D
theorem d1_0 : decode prog_155_method_25_code 0 = .ok (.aload_n 0, 1) := by decide +kernel
theorem d1_1 : decode prog_155_method_25_code 1 = .ok (.arraylength, 1) := by decide +kernel
theorem d1_2 : decode prog_155_method_25_code 2 = .ok (.iconst 2, 1) := by decide +kernel
theorem d1_3 : decode prog_155_method_25_code 3 = .ok (.idiv, 1) := by decide +kernel
theorem d1_4 : decode prog_155_method_25_code 4 = .ok (.newarray .char, 2) := by decide +kernel
theorem d1_6 : decode prog_155_method_25_code 6 = .ok (.astore_n 1, 1) := by decide +kernel
theorem d1_7 : decode prog_155_method_25_code 7 = .ok (.iconst 0, 1) := by decide +kernel
theorem d1_8 : decode prog_155_method_25_code 8 = .ok (.istore_n 2, 1) := by decide +kernel
theorem d1_9 : decode prog_155_method_25_code 9 = .ok (.iload_n 2, 1) := by decide +kernel
theorem d1_10 : decode prog_155_method_25_code 10 = .ok (.aload_n 1, 1) := by decide +kernel
theorem d1_11 : decode prog_155_method_25_code 11 = .ok (.arraylength, 1) := by decide +kernel
theorem d1_12 : decode prog_155_method_25_code 12 = .ok (.if_icmp .ge 37, 3) := by decide +kernel
theorem d1_15 : decode prog_155_method_25_code 15 = .ok (.aload_n 1, 1) := by decide +kernel
theorem d1_16 : decode prog_155_method_25_code 16 = .ok (.iload_n 2, 1) := by decide +kernel
theorem d1_17 : decode prog_155_method_25_code 17 = .ok (.aload_n 0, 1) := by decide +kernel
theorem d1_18 : decode prog_155_method_25_code 18 = .ok (.iconst 2, 1) := by decide +kernel
theorem d1_19 : decode prog_155_method_25_code 19 = .ok (.iload_n 2, 1) := by decide +kernel
theorem d1_20 : decode prog_155_method_25_code 20 = .ok (.imul, 1) := by decide +kernel
theorem d1_21 : decode prog_155_method_25_code 21 = .ok (.baload, 1) := by decide +kernel
theorem d1_22 : decode prog_155_method_25_code 22 = .ok (.sipush 255, 3) := by decide +kernel
theorem d1_25 : decode prog_155_method_25_code 25 = .ok (.iand, 1) := by decide +kernel
theorem d1_26 : decode prog_155_method_25_code 26 = .ok (.bipush 8, 2) := by decide +kernel
theorem d1_28 : decode prog_155_method_25_code 28 = .ok (.ishl, 1) := by decide +kernel
theorem d1_29 : decode prog_155_method_25_code 29 = .ok (.aload_n 0, 1) := by decide +kernel
theorem d1_30 : decode prog_155_method_25_code 30 = .ok (.iconst 2, 1) := by decide +kernel
theorem d1_31 : decode prog_155_method_25_code 31 = .ok (.iload_n 2, 1) := by decide +kernel
theorem d1_32 : decode prog_155_method_25_code 32 = .ok (.imul, 1) := by decide +kernel
theorem d1_33 : decode prog_155_method_25_code 33 = .ok (.iconst 1, 1) := by decide +kernel
theorem d1_34 : decode prog_155_method_25_code 34 = .ok (.iadd, 1) := by decide +kernel
theorem d1_35 : decode prog_155_method_25_code 35 = .ok (.baload, 1) := by decide +kernel
theorem d1_36 : decode prog_155_method_25_code 36 = .ok (.sipush 255, 3) := by decide +kernel
theorem d1_39 : decode prog_155_method_25_code 39 = .ok (.iand, 1) := by decide +kernel
theorem d1_40 : decode prog_155_method_25_code 40 = .ok (.ior, 1) := by decide +kernel
theorem d1_41 : decode prog_155_method_25_code 41 = .ok (.i2c, 1) := by decide +kernel
theorem d1_42 : decode prog_155_method_25_code 42 = .ok (.castore, 1) := by decide +kernel
theorem d1_43 : decode prog_155_method_25_code 43 = .ok (.iinc 2 1, 3) := by decide +kernel
theorem d1_46 : decode prog_155_method_25_code 46 = .ok (.goto (-37), 3) := by decide +kernel
theorem d1_49 : decode prog_155_method_25_code 49 = .ok (.aload_n 1, 1) := by decide +kernel
theorem d1_50 : decode prog_155_method_25_code 50 = .ok (.areturn, 1) := by decide +kernel
theorem pn_0 : plainName "com/example/aschenputtel/aschenputtel/values/UcaWeights" = true := by first | (simp [plainName, overriddenIn]; done) | decide +kernel
theorem pn_1 : plainName "com/example/aschenputtel/aschenputtel/values/UcaWeightsKeyCharactersPinLaw" = true := by first | (simp [plainName, overriddenIn]; done) | decide +kernel
theorem pd_0 : parseMethodDescriptor "([B)[C" = some ⟨[(.array .byte)], some (.array .char)⟩ := by decide +kernel
theorem own_nar1 {x : Int32} (h : x = 1) : nar .boolean x = 1 := by subst h; rfl
theorem own_n0 : nar .boolean (0 : Int32) = 0 := rfl
theorem own_n1 : nar .boolean (1 : Int32) = 1 := rfl
theorem own_and3 (x : Int32) : x &&& (3 : Int32) = 0 ∨ x &&& (3 : Int32) = 1 ∨ x &&& (3 : Int32) = 2 ∨ x &&& (3 : Int32) = 3 := by
  have h := c_mask x 3 2 (by decide) (by decide)
  have k : ((2 ^ 2 : Nat) : Int) = 4 := by decide
  rw [k] at h
  simp only [← Int32.toInt_inj, h, show (0 : Int32).toInt = 0 from by decide, show (1 : Int32).toInt = 1 from by decide, show (2 : Int32).toInt = 2 from by decide, show (3 : Int32).toInt = 3 from by decide]
  omega
theorem own_two (x : Int32) : (nar .char (((((nar .byte ((((x &&& (65535 : Int32)).toUInt32 >>> ((8 : Int32) &&& 31).toUInt32).toInt32).toInt8.toInt32)) &&& (255 : Int32)) <<< ((8 : Int32) &&& 31)) ||| ((nar .byte ((x &&& (65535 : Int32)).toInt8.toInt32)) &&& (255 : Int32))).toUInt32.toUInt16.toUInt32.toInt32)) = (x &&& (65535 : Int32)) := by
  have h0 := c_mask x 65535 16 (by decide) (by decide)
  have k16 : ((2 ^ 16 : Nat) : Int) = 65536 := by decide
  have k8 : ((2 ^ 8 : Nat) : Int) = 256 := by decide
  rw [k16] at h0
  generalize x &&& (65535 : Int32) = c at *
  have h1 := c_iushr c 8 8 (by decide) (by decide)
  rw [k8] at h1
  generalize ((c.toUInt32 >>> ((8 : Int32) &&& 31).toUInt32).toInt32) = hi at *
  have h2 := c_i2b hi
  have h3 := c_i2b hi.toInt8.toInt32
  have h4 := c_mask hi.toInt8.toInt32.toInt8.toInt32 255 8 (by decide) (by decide)
  rw [k8] at h4
  have g2 := c_i2b c
  have g3 := c_i2b c.toInt8.toInt32
  have g4 := c_mask c.toInt8.toInt32.toInt8.toInt32 255 8 (by decide) (by decide)
  rw [k8] at g4
  show nar .char (((((hi.toInt8.toInt32.toInt8.toInt32) &&& (255 : Int32)) <<< ((8 : Int32) &&& 31)) ||| ((c.toInt8.toInt32.toInt8.toInt32) &&& (255 : Int32))).toUInt32.toUInt16.toUInt32.toInt32) = c
  generalize hi.toInt8.toInt32.toInt8.toInt32 &&& (255 : Int32) = m1 at *
  generalize c.toInt8.toInt32.toInt8.toInt32 &&& (255 : Int32) = m2 at *
  have h5 := c_ishl m1 8 8 (by decide)
  rw [k8] at h5
  have r5 := rng32 (m1 <<< ((8 : Int32) &&& 31))
  generalize (m1 <<< ((8 : Int32) &&& 31)) = sh at *
  have h6 := c_or sh m2 8 (by decide) 256 (by decide) (by omega) (by omega) (by omega)
  generalize sh ||| m2 = o at *
  have h7 := c_i2c o
  have h8 := c_i2c o.toUInt32.toUInt16.toUInt32.toInt32
  show o.toUInt32.toUInt16.toUInt32.toInt32.toUInt32.toUInt16.toUInt32.toInt32 = c
  rw [← Int32.toInt_inj]
  have r6 := rng32 o
  omega
def Q1 (Z : State) (r1 : Addr) (k_r1 : ClassId) (h0 : Heap) (n0 : Nat) (v : Option Value) (h : Heap) (L : List Loc) : Prop := ∃ (b2 : Addr), ∃ (k2 : ClassId), v = some (.ref b2) ∧ Fr n0 L ∧ Keep h0 h [] ∧ h0.size ≤ b2 ∧ Arv Z h b2 k2 .char (0 : Int32) [] (.int (0 : Int32))
theorem ef_1 (m : MethodId) (x0 : Addr) : entryFrame m #[(.ref x0)] 3 = mkF m 0 #[.val (.ref x0), .unset, .unset] [] := by first | (simp [entryFrame, mkF, argsToLocals, Value.category]; done) | rfl
set_option maxRecDepth 65536 in
set_option maxHeartbeats 40000000 in
theorem rm1 (l : Launch) (Z : State) (a0 : Array Value) (hw : ∀ d ∈ tables_1, d.before a0 Z = true) (ws : List Jvm.Cond) (r1 : Addr) (k_r1 : ClassId) (h0 : Heap) (n0 : Nat) (Z0 : n0 ≤ h0.size) (V_r1 : Arv Z h0 r1 k_r1 .byte (0 : Int32) [] (.int (0 : Int32))) :
    MetFree l (⟨"com/example/aschenputtel/aschenputtel/values/UcaWeights", "keyCharacters", "([B)[C"⟩ : MethodName) (head1 (Jvm.Cond.code (⟨"com/example/aschenputtel/aschenputtel/values/UcaWeights", "keyCharacters", "([B)[C"⟩ : MethodName) prog_155_method_25_code 3 (some (.array .char)) :: ws) ({ frames := 0, cells := 1, slots := 0, locals := 0 } : Room)) (fun a U => a = #[(.ref r1)] ∧ Z.Warmed39 U.vm ∧ U.heap = h0) (fun _ _ _ _ _ => True) (fun _ U o U' => ∃ v L, o = .returned v ∧ Q1 Z r1 k_r1 h0 n0 v U'.heap L ∧ FrameEnd U o U' L ({ frames := 0, cells := 1, slots := 0, locals := 0 } : Room).cells ({ frames := 0, cells := 1, slots := 0, locals := 0 } : Room).slots) := by
  refine MetFree.of_bodySF (plainFor_of_name pn_0) hisR ?_
  intro p e s m args below meth c s₁ Bd hml0 hP hK
  obtain ⟨rfl, hZ, hh⟩ := hP
  have hx := Bd.exec
  have hby := Bd.bytes
  have hml : c.maxLocals = 3 := hml0
  have hown : s.vm.findClass "com/example/aschenputtel/aschenputtel/values/UcaWeights" = some m.cls := findClass_of_methodNamed Bd.named
  have hnm := (name_of_methodNamed Bd.named Bd.method).1
  have X0 : Stand p l e ({ frames := 0, cells := 1, slots := 0, locals := 0 } : Room) s m #[(.ref r1)] below meth c s₁ [] 0 0 := Stand.of_body Bd
  have e0 : s₁.heap = h0 := by rw [← hh, Bd.state]; rfl
  have N0 := Fr.nil n0
  have pre0 : ∀ t, Steps p.tables e below (s₁.setTop (mkF m 0 #[.val (.ref r1), .unset, .unset] [])) t → Steps p.tables e below (s₁.setTop (entryFrame m #[(.ref r1)] 3)) t := fun t k => castTop (ef_1 m r1) k
  obtain ⟨cl1, Ar1, -, Sz1, Nn1, -, -⟩ := id V_r1
  obtain ⟨T2, h2, k2, X2, e2, E2, A2, st2⟩ := newP X0 hx hZ (hw _ (List.mem_of_getElem? (i := 6) rfl)) e0 (g := (mkF m 4 #[.val (.ref r1), .unset, .unset] [(.int (0 : Int32))])) rfl (hb hby d1_4) rfl (by decide) (cap := 0) (by decide) (by decide) (by decide) (by decide)
  obtain ⟨b2, g2⟩ : ∃ z, z = h0.size := ⟨_, rfl⟩
  rw [← g2] at A2 st2
  have sz_b2 : h0.size ≤ b2 := Nat.le_trans (Keep.refl h0 []).1 (Nat.le_of_eq g2.symm)
  have K3 : Keep h0 h2 [] := (Keep.refl h0 []).ext E2
  have V2 : Arv Z h2 b2 k2 .char (0 : Int32) [] (.int (0 : Int32)) := Arv.new A2 (by decide)
  obtain ⟨cl4, Ar4, -, Sz4, Nn4, -, -⟩ := id V2
  have pre5 : ∀ t, Steps p.tables e below (T2.setTop (mkF m 50 #[.val (.ref r1), .val (.ref b2), .val (.int (0 : Int32))] [(.ref b2)])) t → Steps p.tables e below (s₁.setTop (entryFrame m #[(.ref r1)] 3)) t := by
    intro t k
    refine pre0 _ ?_
    show Steps p.tables e below (s₁.setTop (mkF m 0 #[.val (.ref r1), .unset, .unset] [])) _
    refine XS.aloadN X0.here hx rfl (hb hby d1_0) rfl rfl ?_
    show Steps p.tables e below (s₁.setTop (mkF m 1 #[.val (.ref r1), .unset, .unset] [(.ref r1)])) _
    refine X0.arraylength hx (by rw [e0]; exact Ar1.1) (State.isArrayOf_alike hZ.alike Ar1.2.1) (g := (mkF m 1 #[.val (.ref r1), .unset, .unset] [(.ref r1)])) rfl rfl (hb hby d1_1) _ ?_
    rw [len_of Sz1 Nn1]
    show Steps p.tables e below (s₁.setTop (mkF m 2 #[.val (.ref r1), .unset, .unset] [(.int (0 : Int32))])) _
    refine XS.iconst X0.here hx rfl (hb hby d1_2) ?_
    show Steps p.tables e below (s₁.setTop (mkF m 3 #[.val (.ref r1), .unset, .unset] [(.int (2 : Int32)), (.int (0 : Int32))])) _
    refine XS.idiv X0.here hx rfl (hb hby d1_3) rfl (by decide) ?_
    show Steps p.tables e below (s₁.setTop (mkF m 4 #[.val (.ref r1), .unset, .unset] [(.int (0 : Int32))])) _
    refine st2 _ ?_
    show Steps p.tables e below (T2.setTop (mkF m 6 #[.val (.ref r1), .unset, .unset] [(.ref b2)])) _
    refine XS.astoreN X2.here hx rfl (hb hby d1_6) rfl rfl (l' := #[.val (.ref r1), .val (.ref b2), .unset]) rfl ?_
    show Steps p.tables e below (T2.setTop (mkF m 7 #[.val (.ref r1), .val (.ref b2), .unset] [])) _
    refine XS.iconst X2.here hx rfl (hb hby d1_7) ?_
    show Steps p.tables e below (T2.setTop (mkF m 8 #[.val (.ref r1), .val (.ref b2), .unset] [(.int (0 : Int32))])) _
    refine XS.istoreN X2.here hx rfl (hb hby d1_8) rfl (l' := #[.val (.ref r1), .val (.ref b2), .val (.int (0 : Int32))]) rfl ?_
    show Steps p.tables e below (T2.setTop (mkF m 9 #[.val (.ref r1), .val (.ref b2), .val (.int (0 : Int32))] [])) _
    refine XS.iloadN X2.here hx rfl (hb hby d1_9) rfl ?_
    show Steps p.tables e below (T2.setTop (mkF m 10 #[.val (.ref r1), .val (.ref b2), .val (.int (0 : Int32))] [(.int (0 : Int32))])) _
    refine XS.aloadN X2.here hx rfl (hb hby d1_10) rfl rfl ?_
    show Steps p.tables e below (T2.setTop (mkF m 11 #[.val (.ref r1), .val (.ref b2), .val (.int (0 : Int32))] [(.ref b2), (.int (0 : Int32))])) _
    refine X2.arraylength hx (by rw [e2]; exact Ar4.1) (State.isArrayOf_alike hZ.alike Ar4.2.1) (g := (mkF m 11 #[.val (.ref r1), .val (.ref b2), .val (.int (0 : Int32))] [(.ref b2), (.int (0 : Int32))])) rfl rfl (hb hby d1_11) _ ?_
    rw [len_of Sz4 Nn4]
    show Steps p.tables e below (T2.setTop (mkF m 12 #[.val (.ref r1), .val (.ref b2), .val (.int (0 : Int32))] [(.int (0 : Int32)), (.int (0 : Int32))])) _
    refine XS.icmpYes X2.here hx rfl (pc0 := 12) (pc' := 49) rfl (hb hby d1_12) rfl (flt (by decide : ¬ ((0 : Int32) < (0 : Int32)))).2.1 (by decide) (by decide) ?_
    show Steps p.tables e below (T2.setTop (mkF m 49 #[.val (.ref r1), .val (.ref b2), .val (.int (0 : Int32))] [])) _
    refine XS.aloadN X2.here hx rfl (hb hby d1_49) rfl rfl ?_
    exact k
  obtain ⟨fs, hr, hrun, hended, hW, hsame⟩ := X2.leave (v := some (.ref b2)) (fun h => by rw [Bd.returns] at h; cases h)
  refine ⟨_, _, pre5 _ ?_, hrun, hended, _, _, rfl, ?_, ⟨_, rfl⟩, hW, hsame.mono (by decide) (by decide)⟩
  · show Steps p.tables e below (T2.setTop (mkF m 50 #[.val (.ref r1), .val (.ref b2), .val (.int (0 : Int32))] [(.ref b2)])) _
    exact areturnOut X2 hx rfl Bd.returns rfl (hb hby d1_50) hr
  · show Q1 Z r1 k_r1 h0 n0 _ T2.heap _
    rw [e2]
    exact ⟨b2, k2, rfl, N0, K3, sz_b2, V2⟩
def Q1a (Z : State) (r1 : Addr) (e0_r1 : Int32) (k_r1 : ClassId) (h0 : Heap) (n0 : Nat) (v : Option Value) (h : Heap) (L : List Loc) : Prop := ∃ (b2 : Addr), ∃ (k2 : ClassId), v = some (.ref b2) ∧ Fr n0 L ∧ Keep h0 h [] ∧ h0.size ≤ b2 ∧ Arv Z h b2 k2 .char (0 : Int32) [] (.int (0 : Int32))
theorem ef_1a (m : MethodId) (x0 : Addr) : entryFrame m #[(.ref x0)] 3 = mkF m 0 #[.val (.ref x0), .unset, .unset] [] := by first | (simp [entryFrame, mkF, argsToLocals, Value.category]; done) | rfl
set_option maxRecDepth 65536 in
set_option maxHeartbeats 40000000 in
theorem rm1a (l : Launch) (Z : State) (a0 : Array Value) (hw : ∀ d ∈ tables_1, d.before a0 Z = true) (ws : List Jvm.Cond) (r1 : Addr) (e0_r1 : Int32) (k_r1 : ClassId) (h0 : Heap) (n0 : Nat) (Z0 : n0 ≤ h0.size) (V_r1 : Arv Z h0 r1 k_r1 .byte (1 : Int32) [(.int e0_r1)] (.int (0 : Int32))) :
    MetFree l (⟨"com/example/aschenputtel/aschenputtel/values/UcaWeights", "keyCharacters", "([B)[C"⟩ : MethodName) (head1 (Jvm.Cond.code (⟨"com/example/aschenputtel/aschenputtel/values/UcaWeights", "keyCharacters", "([B)[C"⟩ : MethodName) prog_155_method_25_code 3 (some (.array .char)) :: ws) ({ frames := 0, cells := 1, slots := 0, locals := 0 } : Room)) (fun a U => a = #[(.ref r1)] ∧ Z.Warmed39 U.vm ∧ U.heap = h0) (fun _ _ _ _ _ => True) (fun _ U o U' => ∃ v L, o = .returned v ∧ Q1a Z r1 e0_r1 k_r1 h0 n0 v U'.heap L ∧ FrameEnd U o U' L ({ frames := 0, cells := 1, slots := 0, locals := 0 } : Room).cells ({ frames := 0, cells := 1, slots := 0, locals := 0 } : Room).slots) := by
  refine MetFree.of_bodySF (plainFor_of_name pn_0) hisR ?_
  intro p e s m args below meth c s₁ Bd hml0 hP hK
  obtain ⟨rfl, hZ, hh⟩ := hP
  have hx := Bd.exec
  have hby := Bd.bytes
  have hml : c.maxLocals = 3 := hml0
  have hown : s.vm.findClass "com/example/aschenputtel/aschenputtel/values/UcaWeights" = some m.cls := findClass_of_methodNamed Bd.named
  have hnm := (name_of_methodNamed Bd.named Bd.method).1
  have X0 : Stand p l e ({ frames := 0, cells := 1, slots := 0, locals := 0 } : Room) s m #[(.ref r1)] below meth c s₁ [] 0 0 := Stand.of_body Bd
  have e0 : s₁.heap = h0 := by rw [← hh, Bd.state]; rfl
  have N0 := Fr.nil n0
  have pre0 : ∀ t, Steps p.tables e below (s₁.setTop (mkF m 0 #[.val (.ref r1), .unset, .unset] [])) t → Steps p.tables e below (s₁.setTop (entryFrame m #[(.ref r1)] 3)) t := fun t k => castTop (ef_1a m r1) k
  obtain ⟨cl1, Ar1, -, Sz1, Nn1, -, -⟩ := id V_r1
  obtain ⟨T2, h2, k2, X2, e2, E2, A2, st2⟩ := newP X0 hx hZ (hw _ (List.mem_of_getElem? (i := 6) rfl)) e0 (g := (mkF m 4 #[.val (.ref r1), .unset, .unset] [(.int (0 : Int32))])) rfl (hb hby d1_4) rfl (by decide) (cap := 0) (by decide) (by decide) (by decide) (by decide)
  obtain ⟨b2, g2⟩ : ∃ z, z = h0.size := ⟨_, rfl⟩
  rw [← g2] at A2 st2
  have sz_b2 : h0.size ≤ b2 := Nat.le_trans (Keep.refl h0 []).1 (Nat.le_of_eq g2.symm)
  have K3 : Keep h0 h2 [] := (Keep.refl h0 []).ext E2
  have V2 : Arv Z h2 b2 k2 .char (0 : Int32) [] (.int (0 : Int32)) := Arv.new A2 (by decide)
  obtain ⟨cl4, Ar4, -, Sz4, Nn4, -, -⟩ := id V2
  have pre5 : ∀ t, Steps p.tables e below (T2.setTop (mkF m 50 #[.val (.ref r1), .val (.ref b2), .val (.int (0 : Int32))] [(.ref b2)])) t → Steps p.tables e below (s₁.setTop (entryFrame m #[(.ref r1)] 3)) t := by
    intro t k
    refine pre0 _ ?_
    show Steps p.tables e below (s₁.setTop (mkF m 0 #[.val (.ref r1), .unset, .unset] [])) _
    refine XS.aloadN X0.here hx rfl (hb hby d1_0) rfl rfl ?_
    show Steps p.tables e below (s₁.setTop (mkF m 1 #[.val (.ref r1), .unset, .unset] [(.ref r1)])) _
    refine X0.arraylength hx (by rw [e0]; exact Ar1.1) (State.isArrayOf_alike hZ.alike Ar1.2.1) (g := (mkF m 1 #[.val (.ref r1), .unset, .unset] [(.ref r1)])) rfl rfl (hb hby d1_1) _ ?_
    rw [len_of Sz1 Nn1]
    show Steps p.tables e below (s₁.setTop (mkF m 2 #[.val (.ref r1), .unset, .unset] [(.int (1 : Int32))])) _
    refine XS.iconst X0.here hx rfl (hb hby d1_2) ?_
    show Steps p.tables e below (s₁.setTop (mkF m 3 #[.val (.ref r1), .unset, .unset] [(.int (2 : Int32)), (.int (1 : Int32))])) _
    refine XS.idiv X0.here hx rfl (hb hby d1_3) rfl (by decide) ?_
    show Steps p.tables e below (s₁.setTop (mkF m 4 #[.val (.ref r1), .unset, .unset] [(.int (0 : Int32))])) _
    refine st2 _ ?_
    show Steps p.tables e below (T2.setTop (mkF m 6 #[.val (.ref r1), .unset, .unset] [(.ref b2)])) _
    refine XS.astoreN X2.here hx rfl (hb hby d1_6) rfl rfl (l' := #[.val (.ref r1), .val (.ref b2), .unset]) rfl ?_
    show Steps p.tables e below (T2.setTop (mkF m 7 #[.val (.ref r1), .val (.ref b2), .unset] [])) _
    refine XS.iconst X2.here hx rfl (hb hby d1_7) ?_
    show Steps p.tables e below (T2.setTop (mkF m 8 #[.val (.ref r1), .val (.ref b2), .unset] [(.int (0 : Int32))])) _
    refine XS.istoreN X2.here hx rfl (hb hby d1_8) rfl (l' := #[.val (.ref r1), .val (.ref b2), .val (.int (0 : Int32))]) rfl ?_
    show Steps p.tables e below (T2.setTop (mkF m 9 #[.val (.ref r1), .val (.ref b2), .val (.int (0 : Int32))] [])) _
    refine XS.iloadN X2.here hx rfl (hb hby d1_9) rfl ?_
    show Steps p.tables e below (T2.setTop (mkF m 10 #[.val (.ref r1), .val (.ref b2), .val (.int (0 : Int32))] [(.int (0 : Int32))])) _
    refine XS.aloadN X2.here hx rfl (hb hby d1_10) rfl rfl ?_
    show Steps p.tables e below (T2.setTop (mkF m 11 #[.val (.ref r1), .val (.ref b2), .val (.int (0 : Int32))] [(.ref b2), (.int (0 : Int32))])) _
    refine X2.arraylength hx (by rw [e2]; exact Ar4.1) (State.isArrayOf_alike hZ.alike Ar4.2.1) (g := (mkF m 11 #[.val (.ref r1), .val (.ref b2), .val (.int (0 : Int32))] [(.ref b2), (.int (0 : Int32))])) rfl rfl (hb hby d1_11) _ ?_
    rw [len_of Sz4 Nn4]
    show Steps p.tables e below (T2.setTop (mkF m 12 #[.val (.ref r1), .val (.ref b2), .val (.int (0 : Int32))] [(.int (0 : Int32)), (.int (0 : Int32))])) _
    refine XS.icmpYes X2.here hx rfl (pc0 := 12) (pc' := 49) rfl (hb hby d1_12) rfl (flt (by decide : ¬ ((0 : Int32) < (0 : Int32)))).2.1 (by decide) (by decide) ?_
    show Steps p.tables e below (T2.setTop (mkF m 49 #[.val (.ref r1), .val (.ref b2), .val (.int (0 : Int32))] [])) _
    refine XS.aloadN X2.here hx rfl (hb hby d1_49) rfl rfl ?_
    exact k
  obtain ⟨fs, hr, hrun, hended, hW, hsame⟩ := X2.leave (v := some (.ref b2)) (fun h => by rw [Bd.returns] at h; cases h)
  refine ⟨_, _, pre5 _ ?_, hrun, hended, _, _, rfl, ?_, ⟨_, rfl⟩, hW, hsame.mono (by decide) (by decide)⟩
  · show Steps p.tables e below (T2.setTop (mkF m 50 #[.val (.ref r1), .val (.ref b2), .val (.int (0 : Int32))] [(.ref b2)])) _
    exact areturnOut X2 hx rfl Bd.returns rfl (hb hby d1_50) hr
  · show Q1a Z r1 e0_r1 k_r1 h0 n0 _ T2.heap _
    rw [e2]
    exact ⟨b2, k2, rfl, N0, K3, sz_b2, V2⟩
def Q1b (Z : State) (r1 : Addr) (e0_r1 : Int32) (e1_r1 : Int32) (k_r1 : ClassId) (h0 : Heap) (n0 : Nat) (v : Option Value) (h : Heap) (L : List Loc) : Prop := ∃ (b2 : Addr), ∃ (k2 : ClassId), v = some (.ref b2) ∧ Fr n0 L ∧ Keep h0 h [] ∧ h0.size ≤ b2 ∧ Arv Z h b2 k2 .char (1 : Int32) [(.int (nar .char ((((e0_r1 &&& (255 : Int32)) <<< ((8 : Int32) &&& 31)) ||| (e1_r1 &&& (255 : Int32))).toUInt32.toUInt16.toUInt32.toInt32)))] (.int (0 : Int32))
theorem ef_1b (m : MethodId) (x0 : Addr) : entryFrame m #[(.ref x0)] 3 = mkF m 0 #[.val (.ref x0), .unset, .unset] [] := by first | (simp [entryFrame, mkF, argsToLocals, Value.category]; done) | rfl
set_option maxRecDepth 65536 in
set_option maxHeartbeats 40000000 in
theorem rm1b (l : Launch) (Z : State) (a0 : Array Value) (hw : ∀ d ∈ tables_1, d.before a0 Z = true) (ws : List Jvm.Cond) (r1 : Addr) (e0_r1 : Int32) (e1_r1 : Int32) (k_r1 : ClassId) (h0 : Heap) (n0 : Nat) (Z0 : n0 ≤ h0.size) (V_r1 : Arv Z h0 r1 k_r1 .byte (2 : Int32) [(.int e0_r1), (.int e1_r1)] (.int (0 : Int32))) :
    MetFree l (⟨"com/example/aschenputtel/aschenputtel/values/UcaWeights", "keyCharacters", "([B)[C"⟩ : MethodName) (head1 (Jvm.Cond.code (⟨"com/example/aschenputtel/aschenputtel/values/UcaWeights", "keyCharacters", "([B)[C"⟩ : MethodName) prog_155_method_25_code 3 (some (.array .char)) :: ws) ({ frames := 0, cells := 1, slots := 1, locals := 0 } : Room)) (fun a U => a = #[(.ref r1)] ∧ Z.Warmed39 U.vm ∧ U.heap = h0) (fun _ _ _ _ _ => True) (fun _ U o U' => ∃ v L, o = .returned v ∧ Q1b Z r1 e0_r1 e1_r1 k_r1 h0 n0 v U'.heap L ∧ FrameEnd U o U' L ({ frames := 0, cells := 1, slots := 1, locals := 0 } : Room).cells ({ frames := 0, cells := 1, slots := 1, locals := 0 } : Room).slots) := by
  refine MetFree.of_bodySF (plainFor_of_name pn_0) hisR ?_
  intro p e s m args below meth c s₁ Bd hml0 hP hK
  obtain ⟨rfl, hZ, hh⟩ := hP
  have hx := Bd.exec
  have hby := Bd.bytes
  have hml : c.maxLocals = 3 := hml0
  have hown : s.vm.findClass "com/example/aschenputtel/aschenputtel/values/UcaWeights" = some m.cls := findClass_of_methodNamed Bd.named
  have hnm := (name_of_methodNamed Bd.named Bd.method).1
  have X0 : Stand p l e ({ frames := 0, cells := 1, slots := 1, locals := 0 } : Room) s m #[(.ref r1)] below meth c s₁ [] 0 0 := Stand.of_body Bd
  have e0 : s₁.heap = h0 := by rw [← hh, Bd.state]; rfl
  have N0 := Fr.nil n0
  have pre0 : ∀ t, Steps p.tables e below (s₁.setTop (mkF m 0 #[.val (.ref r1), .unset, .unset] [])) t → Steps p.tables e below (s₁.setTop (entryFrame m #[(.ref r1)] 3)) t := fun t k => castTop (ef_1b m r1) k
  obtain ⟨cl1, Ar1, -, Sz1, Nn1, -, -⟩ := id V_r1
  obtain ⟨T2, h2, k2, X2, e2, E2, A2, st2⟩ := newP X0 hx hZ (hw _ (List.mem_of_getElem? (i := 6) rfl)) e0 (g := (mkF m 4 #[.val (.ref r1), .unset, .unset] [(.int (1 : Int32))])) rfl (hb hby d1_4) rfl (by decide) (cap := 1) (by decide) (by decide) (by decide) (by decide)
  obtain ⟨b2, g2⟩ : ∃ z, z = h0.size := ⟨_, rfl⟩
  rw [← g2] at A2 st2
  have sz_b2 : h0.size ≤ b2 := Nat.le_trans (Keep.refl h0 []).1 (Nat.le_of_eq g2.symm)
  have K3 : Keep h0 h2 [] := (Keep.refl h0 []).ext E2
  have V2 : Arv Z h2 b2 k2 .char (1 : Int32) [(.int (0 : Int32))] (.int (0 : Int32)) := (Arv.new A2 (by decide)).pad (pad_rep [] (.int (0 : Int32)) 1)
  obtain ⟨cl4, Ar4, -, Sz4, Nn4, -, -⟩ := id V2
  have f5 := (V_r1.ext E2)
  obtain ⟨cl6, Ar6, Cq6, Sz6, Nn6, Hh6, Gg6⟩ := id f5
  have hin6 : ¬ ((0 : Int32) < 0 ∨ cl6.slots.size ≤ ((0 : Int32)).toNatClampNeg) := inb_of Sz6 ⟨by decide, by decide⟩
  have hat6 : cl6.slots[((0 : Int32)).toNatClampNeg]? = some (.int e0_r1) := Hh6.at hin6 rfl
  obtain ⟨cl7, Ar7, Cq7, Sz7, Nn7, Hh7, Gg7⟩ := id f5
  have hin7 : ¬ ((1 : Int32) < 0 ∨ cl7.slots.size ≤ ((1 : Int32)).toNatClampNeg) := inb_of Sz7 ⟨by decide, by decide⟩
  have hat7 : cl7.slots[((1 : Int32)).toNatClampNeg]? = some (.int e1_r1) := Hh7.at hin7 rfl
  obtain ⟨cl8, Ar8, Cq8, Sz8, Nn8, Hh8, Gg8⟩ := id V2
  have hin8 : ¬ ((0 : Int32) < 0 ∨ cl8.slots.size ≤ ((0 : Int32)).toNatClampNeg) := inb_of Sz8 ⟨by decide, by decide⟩
  obtain ⟨T8, h8, X8, e8, W8, st8⟩ := stC X2 hx hZ e2 Ar8 (j := (0 : Int32)) hin8 (g := (mkF m 42 #[.val (.ref r1), .val (.ref b2), .val (.int (0 : Int32))] [(.int ((((e0_r1 &&& (255 : Int32)) <<< ((8 : Int32) &&& 31)) ||| (e1_r1 &&& (255 : Int32))).toUInt32.toUInt16.toUInt32.toInt32)), (.int (0 : Int32)), (.ref b2)])) rfl rfl (hb hby d1_42)
  have V8 : Arv Z h8 b2 k2 .char (1 : Int32) [(.int (nar .char ((((e0_r1 &&& (255 : Int32)) <<< ((8 : Int32) &&& 31)) ||| (e1_r1 &&& (255 : Int32))).toUInt32.toUInt16.toUInt32.toInt32)))] (.int (0 : Int32)) := Arv.set Ar8 Cq8 Sz8 Nn8 Hh8 Gg8 (fits_nar_char _) W8 0 rfl (Nat.le_of_ble_eq_true rfl)
  have N8 := Fr.snoc X8 N0 (Nat.le_trans Z0 sz_b2)
  have K9 : Keep h0 h8 [] := K3.wr W8 (Or.inr sz_b2)
  obtain ⟨cl10, Ar10, -, Sz10, Nn10, -, -⟩ := id V8
  have pre11 : ∀ t, Steps p.tables e below (T8.setTop (mkF m 50 #[.val (.ref r1), .val (.ref b2), .val (.int (1 : Int32))] [(.ref b2)])) t → Steps p.tables e below (s₁.setTop (entryFrame m #[(.ref r1)] 3)) t := by
    intro t k
    refine pre0 _ ?_
    show Steps p.tables e below (s₁.setTop (mkF m 0 #[.val (.ref r1), .unset, .unset] [])) _
    refine XS.aloadN X0.here hx rfl (hb hby d1_0) rfl rfl ?_
    show Steps p.tables e below (s₁.setTop (mkF m 1 #[.val (.ref r1), .unset, .unset] [(.ref r1)])) _
    refine X0.arraylength hx (by rw [e0]; exact Ar1.1) (State.isArrayOf_alike hZ.alike Ar1.2.1) (g := (mkF m 1 #[.val (.ref r1), .unset, .unset] [(.ref r1)])) rfl rfl (hb hby d1_1) _ ?_
    rw [len_of Sz1 Nn1]
    show Steps p.tables e below (s₁.setTop (mkF m 2 #[.val (.ref r1), .unset, .unset] [(.int (2 : Int32))])) _
    refine XS.iconst X0.here hx rfl (hb hby d1_2) ?_
    show Steps p.tables e below (s₁.setTop (mkF m 3 #[.val (.ref r1), .unset, .unset] [(.int (2 : Int32)), (.int (2 : Int32))])) _
    refine XS.idiv X0.here hx rfl (hb hby d1_3) rfl (by decide) ?_
    show Steps p.tables e below (s₁.setTop (mkF m 4 #[.val (.ref r1), .unset, .unset] [(.int (1 : Int32))])) _
    refine st2 _ ?_
    show Steps p.tables e below (T2.setTop (mkF m 6 #[.val (.ref r1), .unset, .unset] [(.ref b2)])) _
    refine XS.astoreN X2.here hx rfl (hb hby d1_6) rfl rfl (l' := #[.val (.ref r1), .val (.ref b2), .unset]) rfl ?_
    show Steps p.tables e below (T2.setTop (mkF m 7 #[.val (.ref r1), .val (.ref b2), .unset] [])) _
    refine XS.iconst X2.here hx rfl (hb hby d1_7) ?_
    show Steps p.tables e below (T2.setTop (mkF m 8 #[.val (.ref r1), .val (.ref b2), .unset] [(.int (0 : Int32))])) _
    refine XS.istoreN X2.here hx rfl (hb hby d1_8) rfl (l' := #[.val (.ref r1), .val (.ref b2), .val (.int (0 : Int32))]) rfl ?_
    show Steps p.tables e below (T2.setTop (mkF m 9 #[.val (.ref r1), .val (.ref b2), .val (.int (0 : Int32))] [])) _
    refine XS.iloadN X2.here hx rfl (hb hby d1_9) rfl ?_
    show Steps p.tables e below (T2.setTop (mkF m 10 #[.val (.ref r1), .val (.ref b2), .val (.int (0 : Int32))] [(.int (0 : Int32))])) _
    refine XS.aloadN X2.here hx rfl (hb hby d1_10) rfl rfl ?_
    show Steps p.tables e below (T2.setTop (mkF m 11 #[.val (.ref r1), .val (.ref b2), .val (.int (0 : Int32))] [(.ref b2), (.int (0 : Int32))])) _
    refine X2.arraylength hx (by rw [e2]; exact Ar4.1) (State.isArrayOf_alike hZ.alike Ar4.2.1) (g := (mkF m 11 #[.val (.ref r1), .val (.ref b2), .val (.int (0 : Int32))] [(.ref b2), (.int (0 : Int32))])) rfl rfl (hb hby d1_11) _ ?_
    rw [len_of Sz4 Nn4]
    show Steps p.tables e below (T2.setTop (mkF m 12 #[.val (.ref r1), .val (.ref b2), .val (.int (0 : Int32))] [(.int (1 : Int32)), (.int (0 : Int32))])) _
    refine XS.icmpNo X2.here hx rfl (hb hby d1_12) rfl (tlt (by decide : (0 : Int32) < (1 : Int32))).2.1 ?_
    show Steps p.tables e below (T2.setTop (mkF m 15 #[.val (.ref r1), .val (.ref b2), .val (.int (0 : Int32))] [])) _
    refine XS.aloadN X2.here hx rfl (hb hby d1_15) rfl rfl ?_
    show Steps p.tables e below (T2.setTop (mkF m 16 #[.val (.ref r1), .val (.ref b2), .val (.int (0 : Int32))] [(.ref b2)])) _
    refine XS.iloadN X2.here hx rfl (hb hby d1_16) rfl ?_
    show Steps p.tables e below (T2.setTop (mkF m 17 #[.val (.ref r1), .val (.ref b2), .val (.int (0 : Int32))] [(.int (0 : Int32)), (.ref b2)])) _
    refine XS.aloadN X2.here hx rfl (hb hby d1_17) rfl rfl ?_
    show Steps p.tables e below (T2.setTop (mkF m 18 #[.val (.ref r1), .val (.ref b2), .val (.int (0 : Int32))] [(.ref r1), (.int (0 : Int32)), (.ref b2)])) _
    refine XS.iconst X2.here hx rfl (hb hby d1_18) ?_
    show Steps p.tables e below (T2.setTop (mkF m 19 #[.val (.ref r1), .val (.ref b2), .val (.int (0 : Int32))] [(.int (2 : Int32)), (.ref r1), (.int (0 : Int32)), (.ref b2)])) _
    refine XS.iloadN X2.here hx rfl (hb hby d1_19) rfl ?_
    show Steps p.tables e below (T2.setTop (mkF m 20 #[.val (.ref r1), .val (.ref b2), .val (.int (0 : Int32))] [(.int (0 : Int32)), (.int (2 : Int32)), (.ref r1), (.int (0 : Int32)), (.ref b2)])) _
    refine XS.imul X2.here hx rfl (hb hby d1_20) rfl ?_
    show Steps p.tables e below (T2.setTop (mkF m 21 #[.val (.ref r1), .val (.ref b2), .val (.int (0 : Int32))] [(.int (0 : Int32)), (.ref r1), (.int (0 : Int32)), (.ref b2)])) _
    refine X2.baloadBytes hx (j := (0 : Int32)) (v := (.int e0_r1)) (by rw [e2]; exact Ar6.1) (State.isArrayOf_alike hZ.alike Ar6.2.1) Ar6.2.2 hin6 hat6 (g := (mkF m 21 #[.val (.ref r1), .val (.ref b2), .val (.int (0 : Int32))] [(.int (0 : Int32)), (.ref r1), (.int (0 : Int32)), (.ref b2)])) rfl rfl (hb hby d1_21) _ ?_
    show Steps p.tables e below (T2.setTop (mkF m 22 #[.val (.ref r1), .val (.ref b2), .val (.int (0 : Int32))] [(.int e0_r1), (.int (0 : Int32)), (.ref b2)])) _
    refine XS.sipush X2.here hx rfl (hb hby d1_22) ?_
    show Steps p.tables e below (T2.setTop (mkF m 25 #[.val (.ref r1), .val (.ref b2), .val (.int (0 : Int32))] [(.int (255 : Int32)), (.int e0_r1), (.int (0 : Int32)), (.ref b2)])) _
    refine XS.iand X2.here hx rfl (hb hby d1_25) rfl ?_
    show Steps p.tables e below (T2.setTop (mkF m 26 #[.val (.ref r1), .val (.ref b2), .val (.int (0 : Int32))] [(.int (e0_r1 &&& (255 : Int32))), (.int (0 : Int32)), (.ref b2)])) _
    refine XS.bipush X2.here hx rfl (hb hby d1_26) ?_
    show Steps p.tables e below (T2.setTop (mkF m 28 #[.val (.ref r1), .val (.ref b2), .val (.int (0 : Int32))] [(.int (8 : Int32)), (.int (e0_r1 &&& (255 : Int32))), (.int (0 : Int32)), (.ref b2)])) _
    refine XS.ishl X2.here hx rfl (hb hby d1_28) rfl ?_
    show Steps p.tables e below (T2.setTop (mkF m 29 #[.val (.ref r1), .val (.ref b2), .val (.int (0 : Int32))] [(.int ((e0_r1 &&& (255 : Int32)) <<< ((8 : Int32) &&& 31))), (.int (0 : Int32)), (.ref b2)])) _
    refine XS.aloadN X2.here hx rfl (hb hby d1_29) rfl rfl ?_
    show Steps p.tables e below (T2.setTop (mkF m 30 #[.val (.ref r1), .val (.ref b2), .val (.int (0 : Int32))] [(.ref r1), (.int ((e0_r1 &&& (255 : Int32)) <<< ((8 : Int32) &&& 31))), (.int (0 : Int32)), (.ref b2)])) _
    refine XS.iconst X2.here hx rfl (hb hby d1_30) ?_
    show Steps p.tables e below (T2.setTop (mkF m 31 #[.val (.ref r1), .val (.ref b2), .val (.int (0 : Int32))] [(.int (2 : Int32)), (.ref r1), (.int ((e0_r1 &&& (255 : Int32)) <<< ((8 : Int32) &&& 31))), (.int (0 : Int32)), (.ref b2)])) _
    refine XS.iloadN X2.here hx rfl (hb hby d1_31) rfl ?_
    show Steps p.tables e below (T2.setTop (mkF m 32 #[.val (.ref r1), .val (.ref b2), .val (.int (0 : Int32))] [(.int (0 : Int32)), (.int (2 : Int32)), (.ref r1), (.int ((e0_r1 &&& (255 : Int32)) <<< ((8 : Int32) &&& 31))), (.int (0 : Int32)), (.ref b2)])) _
    refine XS.imul X2.here hx rfl (hb hby d1_32) rfl ?_
    show Steps p.tables e below (T2.setTop (mkF m 33 #[.val (.ref r1), .val (.ref b2), .val (.int (0 : Int32))] [(.int (0 : Int32)), (.ref r1), (.int ((e0_r1 &&& (255 : Int32)) <<< ((8 : Int32) &&& 31))), (.int (0 : Int32)), (.ref b2)])) _
    refine XS.iconst X2.here hx rfl (hb hby d1_33) ?_
    show Steps p.tables e below (T2.setTop (mkF m 34 #[.val (.ref r1), .val (.ref b2), .val (.int (0 : Int32))] [(.int (1 : Int32)), (.int (0 : Int32)), (.ref r1), (.int ((e0_r1 &&& (255 : Int32)) <<< ((8 : Int32) &&& 31))), (.int (0 : Int32)), (.ref b2)])) _
    refine XS.iadd X2.here hx rfl (hb hby d1_34) rfl ?_
    show Steps p.tables e below (T2.setTop (mkF m 35 #[.val (.ref r1), .val (.ref b2), .val (.int (0 : Int32))] [(.int (1 : Int32)), (.ref r1), (.int ((e0_r1 &&& (255 : Int32)) <<< ((8 : Int32) &&& 31))), (.int (0 : Int32)), (.ref b2)])) _
    refine X2.baloadBytes hx (j := (1 : Int32)) (v := (.int e1_r1)) (by rw [e2]; exact Ar7.1) (State.isArrayOf_alike hZ.alike Ar7.2.1) Ar7.2.2 hin7 hat7 (g := (mkF m 35 #[.val (.ref r1), .val (.ref b2), .val (.int (0 : Int32))] [(.int (1 : Int32)), (.ref r1), (.int ((e0_r1 &&& (255 : Int32)) <<< ((8 : Int32) &&& 31))), (.int (0 : Int32)), (.ref b2)])) rfl rfl (hb hby d1_35) _ ?_
    show Steps p.tables e below (T2.setTop (mkF m 36 #[.val (.ref r1), .val (.ref b2), .val (.int (0 : Int32))] [(.int e1_r1), (.int ((e0_r1 &&& (255 : Int32)) <<< ((8 : Int32) &&& 31))), (.int (0 : Int32)), (.ref b2)])) _
    refine XS.sipush X2.here hx rfl (hb hby d1_36) ?_
    show Steps p.tables e below (T2.setTop (mkF m 39 #[.val (.ref r1), .val (.ref b2), .val (.int (0 : Int32))] [(.int (255 : Int32)), (.int e1_r1), (.int ((e0_r1 &&& (255 : Int32)) <<< ((8 : Int32) &&& 31))), (.int (0 : Int32)), (.ref b2)])) _
    refine XS.iand X2.here hx rfl (hb hby d1_39) rfl ?_
    show Steps p.tables e below (T2.setTop (mkF m 40 #[.val (.ref r1), .val (.ref b2), .val (.int (0 : Int32))] [(.int (e1_r1 &&& (255 : Int32))), (.int ((e0_r1 &&& (255 : Int32)) <<< ((8 : Int32) &&& 31))), (.int (0 : Int32)), (.ref b2)])) _
    refine XS.ior X2.here hx rfl (hb hby d1_40) rfl ?_
    show Steps p.tables e below (T2.setTop (mkF m 41 #[.val (.ref r1), .val (.ref b2), .val (.int (0 : Int32))] [(.int (((e0_r1 &&& (255 : Int32)) <<< ((8 : Int32) &&& 31)) ||| (e1_r1 &&& (255 : Int32)))), (.int (0 : Int32)), (.ref b2)])) _
    refine XS.i2c X2.here hx rfl (hb hby d1_41) rfl ?_
    show Steps p.tables e below (T2.setTop (mkF m 42 #[.val (.ref r1), .val (.ref b2), .val (.int (0 : Int32))] [(.int ((((e0_r1 &&& (255 : Int32)) <<< ((8 : Int32) &&& 31)) ||| (e1_r1 &&& (255 : Int32))).toUInt32.toUInt16.toUInt32.toInt32)), (.int (0 : Int32)), (.ref b2)])) _
    refine st8 _ ?_
    show Steps p.tables e below (T8.setTop (mkF m 43 #[.val (.ref r1), .val (.ref b2), .val (.int (0 : Int32))] [])) _
    refine XS.iinc X8.here hx rfl (hb hby d1_43) rfl (l' := #[.val (.ref r1), .val (.ref b2), .val (.int (1 : Int32))]) rfl ?_
    show Steps p.tables e below (T8.setTop (mkF m 46 #[.val (.ref r1), .val (.ref b2), .val (.int (1 : Int32))] [])) _
    refine XS.goto X8.here hx rfl (pc0 := 46) (pc' := 9) rfl (hb hby d1_46) (by decide) (by decide) ?_
    show Steps p.tables e below (T8.setTop (mkF m 9 #[.val (.ref r1), .val (.ref b2), .val (.int (1 : Int32))] [])) _
    refine XS.iloadN X8.here hx rfl (hb hby d1_9) rfl ?_
    show Steps p.tables e below (T8.setTop (mkF m 10 #[.val (.ref r1), .val (.ref b2), .val (.int (1 : Int32))] [(.int (1 : Int32))])) _
    refine XS.aloadN X8.here hx rfl (hb hby d1_10) rfl rfl ?_
    show Steps p.tables e below (T8.setTop (mkF m 11 #[.val (.ref r1), .val (.ref b2), .val (.int (1 : Int32))] [(.ref b2), (.int (1 : Int32))])) _
    refine X8.arraylength hx (by rw [e8]; exact Ar10.1) (State.isArrayOf_alike hZ.alike Ar10.2.1) (g := (mkF m 11 #[.val (.ref r1), .val (.ref b2), .val (.int (1 : Int32))] [(.ref b2), (.int (1 : Int32))])) rfl rfl (hb hby d1_11) _ ?_
    rw [len_of Sz10 Nn10]
    show Steps p.tables e below (T8.setTop (mkF m 12 #[.val (.ref r1), .val (.ref b2), .val (.int (1 : Int32))] [(.int (1 : Int32)), (.int (1 : Int32))])) _
    refine XS.icmpYes X8.here hx rfl (pc0 := 12) (pc' := 49) rfl (hb hby d1_12) rfl (flt (by decide : ¬ ((1 : Int32) < (1 : Int32)))).2.1 (by decide) (by decide) ?_
    show Steps p.tables e below (T8.setTop (mkF m 49 #[.val (.ref r1), .val (.ref b2), .val (.int (1 : Int32))] [])) _
    refine XS.aloadN X8.here hx rfl (hb hby d1_49) rfl rfl ?_
    exact k
  obtain ⟨fs, hr, hrun, hended, hW, hsame⟩ := X8.leave (v := some (.ref b2)) (fun h => by rw [Bd.returns] at h; cases h)
  refine ⟨_, _, pre11 _ ?_, hrun, hended, _, _, rfl, ?_, ⟨_, rfl⟩, hW, hsame.mono (by decide) (by decide)⟩
  · show Steps p.tables e below (T8.setTop (mkF m 50 #[.val (.ref r1), .val (.ref b2), .val (.int (1 : Int32))] [(.ref b2)])) _
    exact areturnOut X8 hx rfl Bd.returns rfl (hb hby d1_50) hr
  · show Q1b Z r1 e0_r1 e1_r1 k_r1 h0 n0 _ T8.heap _
    rw [e8]
    exact ⟨b2, k2, rfl, N8, K9, sz_b2, V8⟩
def Q1c (Z : State) (r1 : Addr) (e0_r1 : Int32) (e1_r1 : Int32) (e2_r1 : Int32) (k_r1 : ClassId) (h0 : Heap) (n0 : Nat) (v : Option Value) (h : Heap) (L : List Loc) : Prop := ∃ (b2 : Addr), ∃ (k2 : ClassId), v = some (.ref b2) ∧ Fr n0 L ∧ Keep h0 h [] ∧ h0.size ≤ b2 ∧ Arv Z h b2 k2 .char (1 : Int32) [(.int (nar .char ((((e0_r1 &&& (255 : Int32)) <<< ((8 : Int32) &&& 31)) ||| (e1_r1 &&& (255 : Int32))).toUInt32.toUInt16.toUInt32.toInt32)))] (.int (0 : Int32))
theorem ef_1c (m : MethodId) (x0 : Addr) : entryFrame m #[(.ref x0)] 3 = mkF m 0 #[.val (.ref x0), .unset, .unset] [] := by first | (simp [entryFrame, mkF, argsToLocals, Value.category]; done) | rfl
set_option maxRecDepth 65536 in
set_option maxHeartbeats 40000000 in
theorem rm1c (l : Launch) (Z : State) (a0 : Array Value) (hw : ∀ d ∈ tables_1, d.before a0 Z = true) (ws : List Jvm.Cond) (r1 : Addr) (e0_r1 : Int32) (e1_r1 : Int32) (e2_r1 : Int32) (k_r1 : ClassId) (h0 : Heap) (n0 : Nat) (Z0 : n0 ≤ h0.size) (V_r1 : Arv Z h0 r1 k_r1 .byte (3 : Int32) [(.int e0_r1), (.int e1_r1), (.int e2_r1)] (.int (0 : Int32))) :
    MetFree l (⟨"com/example/aschenputtel/aschenputtel/values/UcaWeights", "keyCharacters", "([B)[C"⟩ : MethodName) (head1 (Jvm.Cond.code (⟨"com/example/aschenputtel/aschenputtel/values/UcaWeights", "keyCharacters", "([B)[C"⟩ : MethodName) prog_155_method_25_code 3 (some (.array .char)) :: ws) ({ frames := 0, cells := 1, slots := 1, locals := 0 } : Room)) (fun a U => a = #[(.ref r1)] ∧ Z.Warmed39 U.vm ∧ U.heap = h0) (fun _ _ _ _ _ => True) (fun _ U o U' => ∃ v L, o = .returned v ∧ Q1c Z r1 e0_r1 e1_r1 e2_r1 k_r1 h0 n0 v U'.heap L ∧ FrameEnd U o U' L ({ frames := 0, cells := 1, slots := 1, locals := 0 } : Room).cells ({ frames := 0, cells := 1, slots := 1, locals := 0 } : Room).slots) := by
  refine MetFree.of_bodySF (plainFor_of_name pn_0) hisR ?_
  intro p e s m args below meth c s₁ Bd hml0 hP hK
  obtain ⟨rfl, hZ, hh⟩ := hP
  have hx := Bd.exec
  have hby := Bd.bytes
  have hml : c.maxLocals = 3 := hml0
  have hown : s.vm.findClass "com/example/aschenputtel/aschenputtel/values/UcaWeights" = some m.cls := findClass_of_methodNamed Bd.named
  have hnm := (name_of_methodNamed Bd.named Bd.method).1
  have X0 : Stand p l e ({ frames := 0, cells := 1, slots := 1, locals := 0 } : Room) s m #[(.ref r1)] below meth c s₁ [] 0 0 := Stand.of_body Bd
  have e0 : s₁.heap = h0 := by rw [← hh, Bd.state]; rfl
  have N0 := Fr.nil n0
  have pre0 : ∀ t, Steps p.tables e below (s₁.setTop (mkF m 0 #[.val (.ref r1), .unset, .unset] [])) t → Steps p.tables e below (s₁.setTop (entryFrame m #[(.ref r1)] 3)) t := fun t k => castTop (ef_1c m r1) k
  obtain ⟨cl1, Ar1, -, Sz1, Nn1, -, -⟩ := id V_r1
  obtain ⟨T2, h2, k2, X2, e2, E2, A2, st2⟩ := newP X0 hx hZ (hw _ (List.mem_of_getElem? (i := 6) rfl)) e0 (g := (mkF m 4 #[.val (.ref r1), .unset, .unset] [(.int (1 : Int32))])) rfl (hb hby d1_4) rfl (by decide) (cap := 1) (by decide) (by decide) (by decide) (by decide)
  obtain ⟨b2, g2⟩ : ∃ z, z = h0.size := ⟨_, rfl⟩
  rw [← g2] at A2 st2
  have sz_b2 : h0.size ≤ b2 := Nat.le_trans (Keep.refl h0 []).1 (Nat.le_of_eq g2.symm)
  have K3 : Keep h0 h2 [] := (Keep.refl h0 []).ext E2
  have V2 : Arv Z h2 b2 k2 .char (1 : Int32) [(.int (0 : Int32))] (.int (0 : Int32)) := (Arv.new A2 (by decide)).pad (pad_rep [] (.int (0 : Int32)) 1)
  obtain ⟨cl4, Ar4, -, Sz4, Nn4, -, -⟩ := id V2
  have f5 := (V_r1.ext E2)
  obtain ⟨cl6, Ar6, Cq6, Sz6, Nn6, Hh6, Gg6⟩ := id f5
  have hin6 : ¬ ((0 : Int32) < 0 ∨ cl6.slots.size ≤ ((0 : Int32)).toNatClampNeg) := inb_of Sz6 ⟨by decide, by decide⟩
  have hat6 : cl6.slots[((0 : Int32)).toNatClampNeg]? = some (.int e0_r1) := Hh6.at hin6 rfl
  obtain ⟨cl7, Ar7, Cq7, Sz7, Nn7, Hh7, Gg7⟩ := id f5
  have hin7 : ¬ ((1 : Int32) < 0 ∨ cl7.slots.size ≤ ((1 : Int32)).toNatClampNeg) := inb_of Sz7 ⟨by decide, by decide⟩
  have hat7 : cl7.slots[((1 : Int32)).toNatClampNeg]? = some (.int e1_r1) := Hh7.at hin7 rfl
  obtain ⟨cl8, Ar8, Cq8, Sz8, Nn8, Hh8, Gg8⟩ := id V2
  have hin8 : ¬ ((0 : Int32) < 0 ∨ cl8.slots.size ≤ ((0 : Int32)).toNatClampNeg) := inb_of Sz8 ⟨by decide, by decide⟩
  obtain ⟨T8, h8, X8, e8, W8, st8⟩ := stC X2 hx hZ e2 Ar8 (j := (0 : Int32)) hin8 (g := (mkF m 42 #[.val (.ref r1), .val (.ref b2), .val (.int (0 : Int32))] [(.int ((((e0_r1 &&& (255 : Int32)) <<< ((8 : Int32) &&& 31)) ||| (e1_r1 &&& (255 : Int32))).toUInt32.toUInt16.toUInt32.toInt32)), (.int (0 : Int32)), (.ref b2)])) rfl rfl (hb hby d1_42)
  have V8 : Arv Z h8 b2 k2 .char (1 : Int32) [(.int (nar .char ((((e0_r1 &&& (255 : Int32)) <<< ((8 : Int32) &&& 31)) ||| (e1_r1 &&& (255 : Int32))).toUInt32.toUInt16.toUInt32.toInt32)))] (.int (0 : Int32)) := Arv.set Ar8 Cq8 Sz8 Nn8 Hh8 Gg8 (fits_nar_char _) W8 0 rfl (Nat.le_of_ble_eq_true rfl)
  have N8 := Fr.snoc X8 N0 (Nat.le_trans Z0 sz_b2)
  have K9 : Keep h0 h8 [] := K3.wr W8 (Or.inr sz_b2)
  obtain ⟨cl10, Ar10, -, Sz10, Nn10, -, -⟩ := id V8
  have pre11 : ∀ t, Steps p.tables e below (T8.setTop (mkF m 50 #[.val (.ref r1), .val (.ref b2), .val (.int (1 : Int32))] [(.ref b2)])) t → Steps p.tables e below (s₁.setTop (entryFrame m #[(.ref r1)] 3)) t := by
    intro t k
    refine pre0 _ ?_
    show Steps p.tables e below (s₁.setTop (mkF m 0 #[.val (.ref r1), .unset, .unset] [])) _
    refine XS.aloadN X0.here hx rfl (hb hby d1_0) rfl rfl ?_
    show Steps p.tables e below (s₁.setTop (mkF m 1 #[.val (.ref r1), .unset, .unset] [(.ref r1)])) _
    refine X0.arraylength hx (by rw [e0]; exact Ar1.1) (State.isArrayOf_alike hZ.alike Ar1.2.1) (g := (mkF m 1 #[.val (.ref r1), .unset, .unset] [(.ref r1)])) rfl rfl (hb hby d1_1) _ ?_
    rw [len_of Sz1 Nn1]
    show Steps p.tables e below (s₁.setTop (mkF m 2 #[.val (.ref r1), .unset, .unset] [(.int (3 : Int32))])) _
    refine XS.iconst X0.here hx rfl (hb hby d1_2) ?_
    show Steps p.tables e below (s₁.setTop (mkF m 3 #[.val (.ref r1), .unset, .unset] [(.int (2 : Int32)), (.int (3 : Int32))])) _
    refine XS.idiv X0.here hx rfl (hb hby d1_3) rfl (by decide) ?_
    show Steps p.tables e below (s₁.setTop (mkF m 4 #[.val (.ref r1), .unset, .unset] [(.int (1 : Int32))])) _
    refine st2 _ ?_
    show Steps p.tables e below (T2.setTop (mkF m 6 #[.val (.ref r1), .unset, .unset] [(.ref b2)])) _
    refine XS.astoreN X2.here hx rfl (hb hby d1_6) rfl rfl (l' := #[.val (.ref r1), .val (.ref b2), .unset]) rfl ?_
    show Steps p.tables e below (T2.setTop (mkF m 7 #[.val (.ref r1), .val (.ref b2), .unset] [])) _
    refine XS.iconst X2.here hx rfl (hb hby d1_7) ?_
    show Steps p.tables e below (T2.setTop (mkF m 8 #[.val (.ref r1), .val (.ref b2), .unset] [(.int (0 : Int32))])) _
    refine XS.istoreN X2.here hx rfl (hb hby d1_8) rfl (l' := #[.val (.ref r1), .val (.ref b2), .val (.int (0 : Int32))]) rfl ?_
    show Steps p.tables e below (T2.setTop (mkF m 9 #[.val (.ref r1), .val (.ref b2), .val (.int (0 : Int32))] [])) _
    refine XS.iloadN X2.here hx rfl (hb hby d1_9) rfl ?_
    show Steps p.tables e below (T2.setTop (mkF m 10 #[.val (.ref r1), .val (.ref b2), .val (.int (0 : Int32))] [(.int (0 : Int32))])) _
    refine XS.aloadN X2.here hx rfl (hb hby d1_10) rfl rfl ?_
    show Steps p.tables e below (T2.setTop (mkF m 11 #[.val (.ref r1), .val (.ref b2), .val (.int (0 : Int32))] [(.ref b2), (.int (0 : Int32))])) _
    refine X2.arraylength hx (by rw [e2]; exact Ar4.1) (State.isArrayOf_alike hZ.alike Ar4.2.1) (g := (mkF m 11 #[.val (.ref r1), .val (.ref b2), .val (.int (0 : Int32))] [(.ref b2), (.int (0 : Int32))])) rfl rfl (hb hby d1_11) _ ?_
    rw [len_of Sz4 Nn4]
    show Steps p.tables e below (T2.setTop (mkF m 12 #[.val (.ref r1), .val (.ref b2), .val (.int (0 : Int32))] [(.int (1 : Int32)), (.int (0 : Int32))])) _
    refine XS.icmpNo X2.here hx rfl (hb hby d1_12) rfl (tlt (by decide : (0 : Int32) < (1 : Int32))).2.1 ?_
    show Steps p.tables e below (T2.setTop (mkF m 15 #[.val (.ref r1), .val (.ref b2), .val (.int (0 : Int32))] [])) _
    refine XS.aloadN X2.here hx rfl (hb hby d1_15) rfl rfl ?_
    show Steps p.tables e below (T2.setTop (mkF m 16 #[.val (.ref r1), .val (.ref b2), .val (.int (0 : Int32))] [(.ref b2)])) _
    refine XS.iloadN X2.here hx rfl (hb hby d1_16) rfl ?_
    show Steps p.tables e below (T2.setTop (mkF m 17 #[.val (.ref r1), .val (.ref b2), .val (.int (0 : Int32))] [(.int (0 : Int32)), (.ref b2)])) _
    refine XS.aloadN X2.here hx rfl (hb hby d1_17) rfl rfl ?_
    show Steps p.tables e below (T2.setTop (mkF m 18 #[.val (.ref r1), .val (.ref b2), .val (.int (0 : Int32))] [(.ref r1), (.int (0 : Int32)), (.ref b2)])) _
    refine XS.iconst X2.here hx rfl (hb hby d1_18) ?_
    show Steps p.tables e below (T2.setTop (mkF m 19 #[.val (.ref r1), .val (.ref b2), .val (.int (0 : Int32))] [(.int (2 : Int32)), (.ref r1), (.int (0 : Int32)), (.ref b2)])) _
    refine XS.iloadN X2.here hx rfl (hb hby d1_19) rfl ?_
    show Steps p.tables e below (T2.setTop (mkF m 20 #[.val (.ref r1), .val (.ref b2), .val (.int (0 : Int32))] [(.int (0 : Int32)), (.int (2 : Int32)), (.ref r1), (.int (0 : Int32)), (.ref b2)])) _
    refine XS.imul X2.here hx rfl (hb hby d1_20) rfl ?_
    show Steps p.tables e below (T2.setTop (mkF m 21 #[.val (.ref r1), .val (.ref b2), .val (.int (0 : Int32))] [(.int (0 : Int32)), (.ref r1), (.int (0 : Int32)), (.ref b2)])) _
    refine X2.baloadBytes hx (j := (0 : Int32)) (v := (.int e0_r1)) (by rw [e2]; exact Ar6.1) (State.isArrayOf_alike hZ.alike Ar6.2.1) Ar6.2.2 hin6 hat6 (g := (mkF m 21 #[.val (.ref r1), .val (.ref b2), .val (.int (0 : Int32))] [(.int (0 : Int32)), (.ref r1), (.int (0 : Int32)), (.ref b2)])) rfl rfl (hb hby d1_21) _ ?_
    show Steps p.tables e below (T2.setTop (mkF m 22 #[.val (.ref r1), .val (.ref b2), .val (.int (0 : Int32))] [(.int e0_r1), (.int (0 : Int32)), (.ref b2)])) _
    refine XS.sipush X2.here hx rfl (hb hby d1_22) ?_
    show Steps p.tables e below (T2.setTop (mkF m 25 #[.val (.ref r1), .val (.ref b2), .val (.int (0 : Int32))] [(.int (255 : Int32)), (.int e0_r1), (.int (0 : Int32)), (.ref b2)])) _
    refine XS.iand X2.here hx rfl (hb hby d1_25) rfl ?_
    show Steps p.tables e below (T2.setTop (mkF m 26 #[.val (.ref r1), .val (.ref b2), .val (.int (0 : Int32))] [(.int (e0_r1 &&& (255 : Int32))), (.int (0 : Int32)), (.ref b2)])) _
    refine XS.bipush X2.here hx rfl (hb hby d1_26) ?_
    show Steps p.tables e below (T2.setTop (mkF m 28 #[.val (.ref r1), .val (.ref b2), .val (.int (0 : Int32))] [(.int (8 : Int32)), (.int (e0_r1 &&& (255 : Int32))), (.int (0 : Int32)), (.ref b2)])) _
    refine XS.ishl X2.here hx rfl (hb hby d1_28) rfl ?_
    show Steps p.tables e below (T2.setTop (mkF m 29 #[.val (.ref r1), .val (.ref b2), .val (.int (0 : Int32))] [(.int ((e0_r1 &&& (255 : Int32)) <<< ((8 : Int32) &&& 31))), (.int (0 : Int32)), (.ref b2)])) _
    refine XS.aloadN X2.here hx rfl (hb hby d1_29) rfl rfl ?_
    show Steps p.tables e below (T2.setTop (mkF m 30 #[.val (.ref r1), .val (.ref b2), .val (.int (0 : Int32))] [(.ref r1), (.int ((e0_r1 &&& (255 : Int32)) <<< ((8 : Int32) &&& 31))), (.int (0 : Int32)), (.ref b2)])) _
    refine XS.iconst X2.here hx rfl (hb hby d1_30) ?_
    show Steps p.tables e below (T2.setTop (mkF m 31 #[.val (.ref r1), .val (.ref b2), .val (.int (0 : Int32))] [(.int (2 : Int32)), (.ref r1), (.int ((e0_r1 &&& (255 : Int32)) <<< ((8 : Int32) &&& 31))), (.int (0 : Int32)), (.ref b2)])) _
    refine XS.iloadN X2.here hx rfl (hb hby d1_31) rfl ?_
    show Steps p.tables e below (T2.setTop (mkF m 32 #[.val (.ref r1), .val (.ref b2), .val (.int (0 : Int32))] [(.int (0 : Int32)), (.int (2 : Int32)), (.ref r1), (.int ((e0_r1 &&& (255 : Int32)) <<< ((8 : Int32) &&& 31))), (.int (0 : Int32)), (.ref b2)])) _
    refine XS.imul X2.here hx rfl (hb hby d1_32) rfl ?_
    show Steps p.tables e below (T2.setTop (mkF m 33 #[.val (.ref r1), .val (.ref b2), .val (.int (0 : Int32))] [(.int (0 : Int32)), (.ref r1), (.int ((e0_r1 &&& (255 : Int32)) <<< ((8 : Int32) &&& 31))), (.int (0 : Int32)), (.ref b2)])) _
    refine XS.iconst X2.here hx rfl (hb hby d1_33) ?_
    show Steps p.tables e below (T2.setTop (mkF m 34 #[.val (.ref r1), .val (.ref b2), .val (.int (0 : Int32))] [(.int (1 : Int32)), (.int (0 : Int32)), (.ref r1), (.int ((e0_r1 &&& (255 : Int32)) <<< ((8 : Int32) &&& 31))), (.int (0 : Int32)), (.ref b2)])) _
    refine XS.iadd X2.here hx rfl (hb hby d1_34) rfl ?_
    show Steps p.tables e below (T2.setTop (mkF m 35 #[.val (.ref r1), .val (.ref b2), .val (.int (0 : Int32))] [(.int (1 : Int32)), (.ref r1), (.int ((e0_r1 &&& (255 : Int32)) <<< ((8 : Int32) &&& 31))), (.int (0 : Int32)), (.ref b2)])) _
    refine X2.baloadBytes hx (j := (1 : Int32)) (v := (.int e1_r1)) (by rw [e2]; exact Ar7.1) (State.isArrayOf_alike hZ.alike Ar7.2.1) Ar7.2.2 hin7 hat7 (g := (mkF m 35 #[.val (.ref r1), .val (.ref b2), .val (.int (0 : Int32))] [(.int (1 : Int32)), (.ref r1), (.int ((e0_r1 &&& (255 : Int32)) <<< ((8 : Int32) &&& 31))), (.int (0 : Int32)), (.ref b2)])) rfl rfl (hb hby d1_35) _ ?_
    show Steps p.tables e below (T2.setTop (mkF m 36 #[.val (.ref r1), .val (.ref b2), .val (.int (0 : Int32))] [(.int e1_r1), (.int ((e0_r1 &&& (255 : Int32)) <<< ((8 : Int32) &&& 31))), (.int (0 : Int32)), (.ref b2)])) _
    refine XS.sipush X2.here hx rfl (hb hby d1_36) ?_
    show Steps p.tables e below (T2.setTop (mkF m 39 #[.val (.ref r1), .val (.ref b2), .val (.int (0 : Int32))] [(.int (255 : Int32)), (.int e1_r1), (.int ((e0_r1 &&& (255 : Int32)) <<< ((8 : Int32) &&& 31))), (.int (0 : Int32)), (.ref b2)])) _
    refine XS.iand X2.here hx rfl (hb hby d1_39) rfl ?_
    show Steps p.tables e below (T2.setTop (mkF m 40 #[.val (.ref r1), .val (.ref b2), .val (.int (0 : Int32))] [(.int (e1_r1 &&& (255 : Int32))), (.int ((e0_r1 &&& (255 : Int32)) <<< ((8 : Int32) &&& 31))), (.int (0 : Int32)), (.ref b2)])) _
    refine XS.ior X2.here hx rfl (hb hby d1_40) rfl ?_
    show Steps p.tables e below (T2.setTop (mkF m 41 #[.val (.ref r1), .val (.ref b2), .val (.int (0 : Int32))] [(.int (((e0_r1 &&& (255 : Int32)) <<< ((8 : Int32) &&& 31)) ||| (e1_r1 &&& (255 : Int32)))), (.int (0 : Int32)), (.ref b2)])) _
    refine XS.i2c X2.here hx rfl (hb hby d1_41) rfl ?_
    show Steps p.tables e below (T2.setTop (mkF m 42 #[.val (.ref r1), .val (.ref b2), .val (.int (0 : Int32))] [(.int ((((e0_r1 &&& (255 : Int32)) <<< ((8 : Int32) &&& 31)) ||| (e1_r1 &&& (255 : Int32))).toUInt32.toUInt16.toUInt32.toInt32)), (.int (0 : Int32)), (.ref b2)])) _
    refine st8 _ ?_
    show Steps p.tables e below (T8.setTop (mkF m 43 #[.val (.ref r1), .val (.ref b2), .val (.int (0 : Int32))] [])) _
    refine XS.iinc X8.here hx rfl (hb hby d1_43) rfl (l' := #[.val (.ref r1), .val (.ref b2), .val (.int (1 : Int32))]) rfl ?_
    show Steps p.tables e below (T8.setTop (mkF m 46 #[.val (.ref r1), .val (.ref b2), .val (.int (1 : Int32))] [])) _
    refine XS.goto X8.here hx rfl (pc0 := 46) (pc' := 9) rfl (hb hby d1_46) (by decide) (by decide) ?_
    show Steps p.tables e below (T8.setTop (mkF m 9 #[.val (.ref r1), .val (.ref b2), .val (.int (1 : Int32))] [])) _
    refine XS.iloadN X8.here hx rfl (hb hby d1_9) rfl ?_
    show Steps p.tables e below (T8.setTop (mkF m 10 #[.val (.ref r1), .val (.ref b2), .val (.int (1 : Int32))] [(.int (1 : Int32))])) _
    refine XS.aloadN X8.here hx rfl (hb hby d1_10) rfl rfl ?_
    show Steps p.tables e below (T8.setTop (mkF m 11 #[.val (.ref r1), .val (.ref b2), .val (.int (1 : Int32))] [(.ref b2), (.int (1 : Int32))])) _
    refine X8.arraylength hx (by rw [e8]; exact Ar10.1) (State.isArrayOf_alike hZ.alike Ar10.2.1) (g := (mkF m 11 #[.val (.ref r1), .val (.ref b2), .val (.int (1 : Int32))] [(.ref b2), (.int (1 : Int32))])) rfl rfl (hb hby d1_11) _ ?_
    rw [len_of Sz10 Nn10]
    show Steps p.tables e below (T8.setTop (mkF m 12 #[.val (.ref r1), .val (.ref b2), .val (.int (1 : Int32))] [(.int (1 : Int32)), (.int (1 : Int32))])) _
    refine XS.icmpYes X8.here hx rfl (pc0 := 12) (pc' := 49) rfl (hb hby d1_12) rfl (flt (by decide : ¬ ((1 : Int32) < (1 : Int32)))).2.1 (by decide) (by decide) ?_
    show Steps p.tables e below (T8.setTop (mkF m 49 #[.val (.ref r1), .val (.ref b2), .val (.int (1 : Int32))] [])) _
    refine XS.aloadN X8.here hx rfl (hb hby d1_49) rfl rfl ?_
    exact k
  obtain ⟨fs, hr, hrun, hended, hW, hsame⟩ := X8.leave (v := some (.ref b2)) (fun h => by rw [Bd.returns] at h; cases h)
  refine ⟨_, _, pre11 _ ?_, hrun, hended, _, _, rfl, ?_, ⟨_, rfl⟩, hW, hsame.mono (by decide) (by decide)⟩
  · show Steps p.tables e below (T8.setTop (mkF m 50 #[.val (.ref r1), .val (.ref b2), .val (.int (1 : Int32))] [(.ref b2)])) _
    exact areturnOut X8 hx rfl Bd.returns rfl (hb hby d1_50) hr
  · show Q1c Z r1 e0_r1 e1_r1 e2_r1 k_r1 h0 n0 _ T8.heap _
    rw [e8]
    exact ⟨b2, k2, rfl, N8, K9, sz_b2, V8⟩
def Q1d (Z : State) (r1 : Addr) (e0_r1 : Int32) (e1_r1 : Int32) (e2_r1 : Int32) (e3_r1 : Int32) (k_r1 : ClassId) (h0 : Heap) (n0 : Nat) (v : Option Value) (h : Heap) (L : List Loc) : Prop := ∃ (b2 : Addr), ∃ (k2 : ClassId), v = some (.ref b2) ∧ Fr n0 L ∧ Keep h0 h [] ∧ h0.size ≤ b2 ∧ Arv Z h b2 k2 .char (2 : Int32) [(.int (nar .char ((((e0_r1 &&& (255 : Int32)) <<< ((8 : Int32) &&& 31)) ||| (e1_r1 &&& (255 : Int32))).toUInt32.toUInt16.toUInt32.toInt32))), (.int (nar .char ((((e2_r1 &&& (255 : Int32)) <<< ((8 : Int32) &&& 31)) ||| (e3_r1 &&& (255 : Int32))).toUInt32.toUInt16.toUInt32.toInt32)))] (.int (0 : Int32))
theorem ef_1d (m : MethodId) (x0 : Addr) : entryFrame m #[(.ref x0)] 3 = mkF m 0 #[.val (.ref x0), .unset, .unset] [] := by first | (simp [entryFrame, mkF, argsToLocals, Value.category]; done) | rfl
set_option maxRecDepth 65536 in
set_option maxHeartbeats 40000000 in
theorem rm1d (l : Launch) (Z : State) (a0 : Array Value) (hw : ∀ d ∈ tables_1, d.before a0 Z = true) (ws : List Jvm.Cond) (r1 : Addr) (e0_r1 : Int32) (e1_r1 : Int32) (e2_r1 : Int32) (e3_r1 : Int32) (k_r1 : ClassId) (h0 : Heap) (n0 : Nat) (Z0 : n0 ≤ h0.size) (V_r1 : Arv Z h0 r1 k_r1 .byte (4 : Int32) [(.int e0_r1), (.int e1_r1), (.int e2_r1), (.int e3_r1)] (.int (0 : Int32))) :
    MetFree l (⟨"com/example/aschenputtel/aschenputtel/values/UcaWeights", "keyCharacters", "([B)[C"⟩ : MethodName) (head1 (Jvm.Cond.code (⟨"com/example/aschenputtel/aschenputtel/values/UcaWeights", "keyCharacters", "([B)[C"⟩ : MethodName) prog_155_method_25_code 3 (some (.array .char)) :: ws) ({ frames := 0, cells := 1, slots := 2, locals := 0 } : Room)) (fun a U => a = #[(.ref r1)] ∧ Z.Warmed39 U.vm ∧ U.heap = h0) (fun _ _ _ _ _ => True) (fun _ U o U' => ∃ v L, o = .returned v ∧ Q1d Z r1 e0_r1 e1_r1 e2_r1 e3_r1 k_r1 h0 n0 v U'.heap L ∧ FrameEnd U o U' L ({ frames := 0, cells := 1, slots := 2, locals := 0 } : Room).cells ({ frames := 0, cells := 1, slots := 2, locals := 0 } : Room).slots) := by
  refine MetFree.of_bodySF (plainFor_of_name pn_0) hisR ?_
  intro p e s m args below meth c s₁ Bd hml0 hP hK
  obtain ⟨rfl, hZ, hh⟩ := hP
  have hx := Bd.exec
  have hby := Bd.bytes
  have hml : c.maxLocals = 3 := hml0
  have hown : s.vm.findClass "com/example/aschenputtel/aschenputtel/values/UcaWeights" = some m.cls := findClass_of_methodNamed Bd.named
  have hnm := (name_of_methodNamed Bd.named Bd.method).1
  have X0 : Stand p l e ({ frames := 0, cells := 1, slots := 2, locals := 0 } : Room) s m #[(.ref r1)] below meth c s₁ [] 0 0 := Stand.of_body Bd
  have e0 : s₁.heap = h0 := by rw [← hh, Bd.state]; rfl
  have N0 := Fr.nil n0
  have pre0 : ∀ t, Steps p.tables e below (s₁.setTop (mkF m 0 #[.val (.ref r1), .unset, .unset] [])) t → Steps p.tables e below (s₁.setTop (entryFrame m #[(.ref r1)] 3)) t := fun t k => castTop (ef_1d m r1) k
  obtain ⟨cl1, Ar1, -, Sz1, Nn1, -, -⟩ := id V_r1
  obtain ⟨T2, h2, k2, X2, e2, E2, A2, st2⟩ := newP X0 hx hZ (hw _ (List.mem_of_getElem? (i := 6) rfl)) e0 (g := (mkF m 4 #[.val (.ref r1), .unset, .unset] [(.int (2 : Int32))])) rfl (hb hby d1_4) rfl (by decide) (cap := 2) (by decide) (by decide) (by decide) (by decide)
  obtain ⟨b2, g2⟩ : ∃ z, z = h0.size := ⟨_, rfl⟩
  rw [← g2] at A2 st2
  have sz_b2 : h0.size ≤ b2 := Nat.le_trans (Keep.refl h0 []).1 (Nat.le_of_eq g2.symm)
  have K3 : Keep h0 h2 [] := (Keep.refl h0 []).ext E2
  have V2 : Arv Z h2 b2 k2 .char (2 : Int32) [(.int (0 : Int32)), (.int (0 : Int32))] (.int (0 : Int32)) := (Arv.new A2 (by decide)).pad (pad_rep [] (.int (0 : Int32)) 2)
  obtain ⟨cl4, Ar4, -, Sz4, Nn4, -, -⟩ := id V2
  have f5 := (V_r1.ext E2)
  obtain ⟨cl6, Ar6, Cq6, Sz6, Nn6, Hh6, Gg6⟩ := id f5
  have hin6 : ¬ ((0 : Int32) < 0 ∨ cl6.slots.size ≤ ((0 : Int32)).toNatClampNeg) := inb_of Sz6 ⟨by decide, by decide⟩
  have hat6 : cl6.slots[((0 : Int32)).toNatClampNeg]? = some (.int e0_r1) := Hh6.at hin6 rfl
  obtain ⟨cl7, Ar7, Cq7, Sz7, Nn7, Hh7, Gg7⟩ := id f5
  have hin7 : ¬ ((1 : Int32) < 0 ∨ cl7.slots.size ≤ ((1 : Int32)).toNatClampNeg) := inb_of Sz7 ⟨by decide, by decide⟩
  have hat7 : cl7.slots[((1 : Int32)).toNatClampNeg]? = some (.int e1_r1) := Hh7.at hin7 rfl
  obtain ⟨cl8, Ar8, Cq8, Sz8, Nn8, Hh8, Gg8⟩ := id V2
  have hin8 : ¬ ((0 : Int32) < 0 ∨ cl8.slots.size ≤ ((0 : Int32)).toNatClampNeg) := inb_of Sz8 ⟨by decide, by decide⟩
  obtain ⟨T8, h8, X8, e8, W8, st8⟩ := stC X2 hx hZ e2 Ar8 (j := (0 : Int32)) hin8 (g := (mkF m 42 #[.val (.ref r1), .val (.ref b2), .val (.int (0 : Int32))] [(.int ((((e0_r1 &&& (255 : Int32)) <<< ((8 : Int32) &&& 31)) ||| (e1_r1 &&& (255 : Int32))).toUInt32.toUInt16.toUInt32.toInt32)), (.int (0 : Int32)), (.ref b2)])) rfl rfl (hb hby d1_42)
  have V8 : Arv Z h8 b2 k2 .char (2 : Int32) [(.int (nar .char ((((e0_r1 &&& (255 : Int32)) <<< ((8 : Int32) &&& 31)) ||| (e1_r1 &&& (255 : Int32))).toUInt32.toUInt16.toUInt32.toInt32))), (.int (0 : Int32))] (.int (0 : Int32)) := Arv.set Ar8 Cq8 Sz8 Nn8 Hh8 Gg8 (fits_nar_char _) W8 0 rfl (Nat.le_of_ble_eq_true rfl)
  have N8 := Fr.snoc X8 N0 (Nat.le_trans Z0 sz_b2)
  have K9 : Keep h0 h8 [] := K3.wr W8 (Or.inr sz_b2)
  obtain ⟨cl10, Ar10, -, Sz10, Nn10, -, -⟩ := id V8
  have f11 := (f5.other W8 (Nat.ne_of_lt (Nat.lt_of_lt_of_le V_r1.lt (Nat.le_trans (Nat.le_refl _) (Nat.le_of_eq g2.symm)))))
  obtain ⟨cl12, Ar12, Cq12, Sz12, Nn12, Hh12, Gg12⟩ := id f11
  have hin12 : ¬ ((2 : Int32) < 0 ∨ cl12.slots.size ≤ ((2 : Int32)).toNatClampNeg) := inb_of Sz12 ⟨by decide, by decide⟩
  have hat12 : cl12.slots[((2 : Int32)).toNatClampNeg]? = some (.int e2_r1) := Hh12.at hin12 rfl
  obtain ⟨cl13, Ar13, Cq13, Sz13, Nn13, Hh13, Gg13⟩ := id f11
  have hin13 : ¬ ((3 : Int32) < 0 ∨ cl13.slots.size ≤ ((3 : Int32)).toNatClampNeg) := inb_of Sz13 ⟨by decide, by decide⟩
  have hat13 : cl13.slots[((3 : Int32)).toNatClampNeg]? = some (.int e3_r1) := Hh13.at hin13 rfl
  obtain ⟨cl14, Ar14, Cq14, Sz14, Nn14, Hh14, Gg14⟩ := id V8
  have hin14 : ¬ ((1 : Int32) < 0 ∨ cl14.slots.size ≤ ((1 : Int32)).toNatClampNeg) := inb_of Sz14 ⟨by decide, by decide⟩
  obtain ⟨T14, h14, X14, e14, W14, st14⟩ := stC X8 hx hZ e8 Ar14 (j := (1 : Int32)) hin14 (g := (mkF m 42 #[.val (.ref r1), .val (.ref b2), .val (.int (1 : Int32))] [(.int ((((e2_r1 &&& (255 : Int32)) <<< ((8 : Int32) &&& 31)) ||| (e3_r1 &&& (255 : Int32))).toUInt32.toUInt16.toUInt32.toInt32)), (.int (1 : Int32)), (.ref b2)])) rfl rfl (hb hby d1_42)
  have V14 : Arv Z h14 b2 k2 .char (2 : Int32) [(.int (nar .char ((((e0_r1 &&& (255 : Int32)) <<< ((8 : Int32) &&& 31)) ||| (e1_r1 &&& (255 : Int32))).toUInt32.toUInt16.toUInt32.toInt32))), (.int (nar .char ((((e2_r1 &&& (255 : Int32)) <<< ((8 : Int32) &&& 31)) ||| (e3_r1 &&& (255 : Int32))).toUInt32.toUInt16.toUInt32.toInt32)))] (.int (0 : Int32)) := Arv.set Ar14 Cq14 Sz14 Nn14 Hh14 Gg14 (fits_nar_char _) W14 1 rfl (Nat.le_of_ble_eq_true rfl)
  have N14 := Fr.snoc X14 N8 (Nat.le_trans Z0 sz_b2)
  have K15 : Keep h0 h14 [] := K9.wr W14 (Or.inr sz_b2)
  obtain ⟨cl16, Ar16, -, Sz16, Nn16, -, -⟩ := id V14
  have pre17 : ∀ t, Steps p.tables e below (T14.setTop (mkF m 50 #[.val (.ref r1), .val (.ref b2), .val (.int (2 : Int32))] [(.ref b2)])) t → Steps p.tables e below (s₁.setTop (entryFrame m #[(.ref r1)] 3)) t := by
    intro t k
    refine pre0 _ ?_
    show Steps p.tables e below (s₁.setTop (mkF m 0 #[.val (.ref r1), .unset, .unset] [])) _
    refine XS.aloadN X0.here hx rfl (hb hby d1_0) rfl rfl ?_
    show Steps p.tables e below (s₁.setTop (mkF m 1 #[.val (.ref r1), .unset, .unset] [(.ref r1)])) _
    refine X0.arraylength hx (by rw [e0]; exact Ar1.1) (State.isArrayOf_alike hZ.alike Ar1.2.1) (g := (mkF m 1 #[.val (.ref r1), .unset, .unset] [(.ref r1)])) rfl rfl (hb hby d1_1) _ ?_
    rw [len_of Sz1 Nn1]
    show Steps p.tables e below (s₁.setTop (mkF m 2 #[.val (.ref r1), .unset, .unset] [(.int (4 : Int32))])) _
    refine XS.iconst X0.here hx rfl (hb hby d1_2) ?_
    show Steps p.tables e below (s₁.setTop (mkF m 3 #[.val (.ref r1), .unset, .unset] [(.int (2 : Int32)), (.int (4 : Int32))])) _
    refine XS.idiv X0.here hx rfl (hb hby d1_3) rfl (by decide) ?_
    show Steps p.tables e below (s₁.setTop (mkF m 4 #[.val (.ref r1), .unset, .unset] [(.int (2 : Int32))])) _
    refine st2 _ ?_
    show Steps p.tables e below (T2.setTop (mkF m 6 #[.val (.ref r1), .unset, .unset] [(.ref b2)])) _
    refine XS.astoreN X2.here hx rfl (hb hby d1_6) rfl rfl (l' := #[.val (.ref r1), .val (.ref b2), .unset]) rfl ?_
    show Steps p.tables e below (T2.setTop (mkF m 7 #[.val (.ref r1), .val (.ref b2), .unset] [])) _
    refine XS.iconst X2.here hx rfl (hb hby d1_7) ?_
    show Steps p.tables e below (T2.setTop (mkF m 8 #[.val (.ref r1), .val (.ref b2), .unset] [(.int (0 : Int32))])) _
    refine XS.istoreN X2.here hx rfl (hb hby d1_8) rfl (l' := #[.val (.ref r1), .val (.ref b2), .val (.int (0 : Int32))]) rfl ?_
    show Steps p.tables e below (T2.setTop (mkF m 9 #[.val (.ref r1), .val (.ref b2), .val (.int (0 : Int32))] [])) _
    refine XS.iloadN X2.here hx rfl (hb hby d1_9) rfl ?_
    show Steps p.tables e below (T2.setTop (mkF m 10 #[.val (.ref r1), .val (.ref b2), .val (.int (0 : Int32))] [(.int (0 : Int32))])) _
    refine XS.aloadN X2.here hx rfl (hb hby d1_10) rfl rfl ?_
    show Steps p.tables e below (T2.setTop (mkF m 11 #[.val (.ref r1), .val (.ref b2), .val (.int (0 : Int32))] [(.ref b2), (.int (0 : Int32))])) _
    refine X2.arraylength hx (by rw [e2]; exact Ar4.1) (State.isArrayOf_alike hZ.alike Ar4.2.1) (g := (mkF m 11 #[.val (.ref r1), .val (.ref b2), .val (.int (0 : Int32))] [(.ref b2), (.int (0 : Int32))])) rfl rfl (hb hby d1_11) _ ?_
    rw [len_of Sz4 Nn4]
    show Steps p.tables e below (T2.setTop (mkF m 12 #[.val (.ref r1), .val (.ref b2), .val (.int (0 : Int32))] [(.int (2 : Int32)), (.int (0 : Int32))])) _
    refine XS.icmpNo X2.here hx rfl (hb hby d1_12) rfl (tlt (by decide : (0 : Int32) < (2 : Int32))).2.1 ?_
    show Steps p.tables e below (T2.setTop (mkF m 15 #[.val (.ref r1), .val (.ref b2), .val (.int (0 : Int32))] [])) _
    refine XS.aloadN X2.here hx rfl (hb hby d1_15) rfl rfl ?_
    show Steps p.tables e below (T2.setTop (mkF m 16 #[.val (.ref r1), .val (.ref b2), .val (.int (0 : Int32))] [(.ref b2)])) _
    refine XS.iloadN X2.here hx rfl (hb hby d1_16) rfl ?_
    show Steps p.tables e below (T2.setTop (mkF m 17 #[.val (.ref r1), .val (.ref b2), .val (.int (0 : Int32))] [(.int (0 : Int32)), (.ref b2)])) _
    refine XS.aloadN X2.here hx rfl (hb hby d1_17) rfl rfl ?_
    show Steps p.tables e below (T2.setTop (mkF m 18 #[.val (.ref r1), .val (.ref b2), .val (.int (0 : Int32))] [(.ref r1), (.int (0 : Int32)), (.ref b2)])) _
    refine XS.iconst X2.here hx rfl (hb hby d1_18) ?_
    show Steps p.tables e below (T2.setTop (mkF m 19 #[.val (.ref r1), .val (.ref b2), .val (.int (0 : Int32))] [(.int (2 : Int32)), (.ref r1), (.int (0 : Int32)), (.ref b2)])) _
    refine XS.iloadN X2.here hx rfl (hb hby d1_19) rfl ?_
    show Steps p.tables e below (T2.setTop (mkF m 20 #[.val (.ref r1), .val (.ref b2), .val (.int (0 : Int32))] [(.int (0 : Int32)), (.int (2 : Int32)), (.ref r1), (.int (0 : Int32)), (.ref b2)])) _
    refine XS.imul X2.here hx rfl (hb hby d1_20) rfl ?_
    show Steps p.tables e below (T2.setTop (mkF m 21 #[.val (.ref r1), .val (.ref b2), .val (.int (0 : Int32))] [(.int (0 : Int32)), (.ref r1), (.int (0 : Int32)), (.ref b2)])) _
    refine X2.baloadBytes hx (j := (0 : Int32)) (v := (.int e0_r1)) (by rw [e2]; exact Ar6.1) (State.isArrayOf_alike hZ.alike Ar6.2.1) Ar6.2.2 hin6 hat6 (g := (mkF m 21 #[.val (.ref r1), .val (.ref b2), .val (.int (0 : Int32))] [(.int (0 : Int32)), (.ref r1), (.int (0 : Int32)), (.ref b2)])) rfl rfl (hb hby d1_21) _ ?_
    show Steps p.tables e below (T2.setTop (mkF m 22 #[.val (.ref r1), .val (.ref b2), .val (.int (0 : Int32))] [(.int e0_r1), (.int (0 : Int32)), (.ref b2)])) _
    refine XS.sipush X2.here hx rfl (hb hby d1_22) ?_
    show Steps p.tables e below (T2.setTop (mkF m 25 #[.val (.ref r1), .val (.ref b2), .val (.int (0 : Int32))] [(.int (255 : Int32)), (.int e0_r1), (.int (0 : Int32)), (.ref b2)])) _
    refine XS.iand X2.here hx rfl (hb hby d1_25) rfl ?_
    show Steps p.tables e below (T2.setTop (mkF m 26 #[.val (.ref r1), .val (.ref b2), .val (.int (0 : Int32))] [(.int (e0_r1 &&& (255 : Int32))), (.int (0 : Int32)), (.ref b2)])) _
    refine XS.bipush X2.here hx rfl (hb hby d1_26) ?_
    show Steps p.tables e below (T2.setTop (mkF m 28 #[.val (.ref r1), .val (.ref b2), .val (.int (0 : Int32))] [(.int (8 : Int32)), (.int (e0_r1 &&& (255 : Int32))), (.int (0 : Int32)), (.ref b2)])) _
    refine XS.ishl X2.here hx rfl (hb hby d1_28) rfl ?_
    show Steps p.tables e below (T2.setTop (mkF m 29 #[.val (.ref r1), .val (.ref b2), .val (.int (0 : Int32))] [(.int ((e0_r1 &&& (255 : Int32)) <<< ((8 : Int32) &&& 31))), (.int (0 : Int32)), (.ref b2)])) _
    refine XS.aloadN X2.here hx rfl (hb hby d1_29) rfl rfl ?_
    show Steps p.tables e below (T2.setTop (mkF m 30 #[.val (.ref r1), .val (.ref b2), .val (.int (0 : Int32))] [(.ref r1), (.int ((e0_r1 &&& (255 : Int32)) <<< ((8 : Int32) &&& 31))), (.int (0 : Int32)), (.ref b2)])) _
    refine XS.iconst X2.here hx rfl (hb hby d1_30) ?_
    show Steps p.tables e below (T2.setTop (mkF m 31 #[.val (.ref r1), .val (.ref b2), .val (.int (0 : Int32))] [(.int (2 : Int32)), (.ref r1), (.int ((e0_r1 &&& (255 : Int32)) <<< ((8 : Int32) &&& 31))), (.int (0 : Int32)), (.ref b2)])) _
    refine XS.iloadN X2.here hx rfl (hb hby d1_31) rfl ?_
    show Steps p.tables e below (T2.setTop (mkF m 32 #[.val (.ref r1), .val (.ref b2), .val (.int (0 : Int32))] [(.int (0 : Int32)), (.int (2 : Int32)), (.ref r1), (.int ((e0_r1 &&& (255 : Int32)) <<< ((8 : Int32) &&& 31))), (.int (0 : Int32)), (.ref b2)])) _
    refine XS.imul X2.here hx rfl (hb hby d1_32) rfl ?_
    show Steps p.tables e below (T2.setTop (mkF m 33 #[.val (.ref r1), .val (.ref b2), .val (.int (0 : Int32))] [(.int (0 : Int32)), (.ref r1), (.int ((e0_r1 &&& (255 : Int32)) <<< ((8 : Int32) &&& 31))), (.int (0 : Int32)), (.ref b2)])) _
    refine XS.iconst X2.here hx rfl (hb hby d1_33) ?_
    show Steps p.tables e below (T2.setTop (mkF m 34 #[.val (.ref r1), .val (.ref b2), .val (.int (0 : Int32))] [(.int (1 : Int32)), (.int (0 : Int32)), (.ref r1), (.int ((e0_r1 &&& (255 : Int32)) <<< ((8 : Int32) &&& 31))), (.int (0 : Int32)), (.ref b2)])) _
    refine XS.iadd X2.here hx rfl (hb hby d1_34) rfl ?_
    show Steps p.tables e below (T2.setTop (mkF m 35 #[.val (.ref r1), .val (.ref b2), .val (.int (0 : Int32))] [(.int (1 : Int32)), (.ref r1), (.int ((e0_r1 &&& (255 : Int32)) <<< ((8 : Int32) &&& 31))), (.int (0 : Int32)), (.ref b2)])) _
    refine X2.baloadBytes hx (j := (1 : Int32)) (v := (.int e1_r1)) (by rw [e2]; exact Ar7.1) (State.isArrayOf_alike hZ.alike Ar7.2.1) Ar7.2.2 hin7 hat7 (g := (mkF m 35 #[.val (.ref r1), .val (.ref b2), .val (.int (0 : Int32))] [(.int (1 : Int32)), (.ref r1), (.int ((e0_r1 &&& (255 : Int32)) <<< ((8 : Int32) &&& 31))), (.int (0 : Int32)), (.ref b2)])) rfl rfl (hb hby d1_35) _ ?_
    show Steps p.tables e below (T2.setTop (mkF m 36 #[.val (.ref r1), .val (.ref b2), .val (.int (0 : Int32))] [(.int e1_r1), (.int ((e0_r1 &&& (255 : Int32)) <<< ((8 : Int32) &&& 31))), (.int (0 : Int32)), (.ref b2)])) _
    refine XS.sipush X2.here hx rfl (hb hby d1_36) ?_
    show Steps p.tables e below (T2.setTop (mkF m 39 #[.val (.ref r1), .val (.ref b2), .val (.int (0 : Int32))] [(.int (255 : Int32)), (.int e1_r1), (.int ((e0_r1 &&& (255 : Int32)) <<< ((8 : Int32) &&& 31))), (.int (0 : Int32)), (.ref b2)])) _
    refine XS.iand X2.here hx rfl (hb hby d1_39) rfl ?_
    show Steps p.tables e below (T2.setTop (mkF m 40 #[.val (.ref r1), .val (.ref b2), .val (.int (0 : Int32))] [(.int (e1_r1 &&& (255 : Int32))), (.int ((e0_r1 &&& (255 : Int32)) <<< ((8 : Int32) &&& 31))), (.int (0 : Int32)), (.ref b2)])) _
    refine XS.ior X2.here hx rfl (hb hby d1_40) rfl ?_
    show Steps p.tables e below (T2.setTop (mkF m 41 #[.val (.ref r1), .val (.ref b2), .val (.int (0 : Int32))] [(.int (((e0_r1 &&& (255 : Int32)) <<< ((8 : Int32) &&& 31)) ||| (e1_r1 &&& (255 : Int32)))), (.int (0 : Int32)), (.ref b2)])) _
    refine XS.i2c X2.here hx rfl (hb hby d1_41) rfl ?_
    show Steps p.tables e below (T2.setTop (mkF m 42 #[.val (.ref r1), .val (.ref b2), .val (.int (0 : Int32))] [(.int ((((e0_r1 &&& (255 : Int32)) <<< ((8 : Int32) &&& 31)) ||| (e1_r1 &&& (255 : Int32))).toUInt32.toUInt16.toUInt32.toInt32)), (.int (0 : Int32)), (.ref b2)])) _
    refine st8 _ ?_
    show Steps p.tables e below (T8.setTop (mkF m 43 #[.val (.ref r1), .val (.ref b2), .val (.int (0 : Int32))] [])) _
    refine XS.iinc X8.here hx rfl (hb hby d1_43) rfl (l' := #[.val (.ref r1), .val (.ref b2), .val (.int (1 : Int32))]) rfl ?_
    show Steps p.tables e below (T8.setTop (mkF m 46 #[.val (.ref r1), .val (.ref b2), .val (.int (1 : Int32))] [])) _
    refine XS.goto X8.here hx rfl (pc0 := 46) (pc' := 9) rfl (hb hby d1_46) (by decide) (by decide) ?_
    show Steps p.tables e below (T8.setTop (mkF m 9 #[.val (.ref r1), .val (.ref b2), .val (.int (1 : Int32))] [])) _
    refine XS.iloadN X8.here hx rfl (hb hby d1_9) rfl ?_
    show Steps p.tables e below (T8.setTop (mkF m 10 #[.val (.ref r1), .val (.ref b2), .val (.int (1 : Int32))] [(.int (1 : Int32))])) _
    refine XS.aloadN X8.here hx rfl (hb hby d1_10) rfl rfl ?_
    show Steps p.tables e below (T8.setTop (mkF m 11 #[.val (.ref r1), .val (.ref b2), .val (.int (1 : Int32))] [(.ref b2), (.int (1 : Int32))])) _
    refine X8.arraylength hx (by rw [e8]; exact Ar10.1) (State.isArrayOf_alike hZ.alike Ar10.2.1) (g := (mkF m 11 #[.val (.ref r1), .val (.ref b2), .val (.int (1 : Int32))] [(.ref b2), (.int (1 : Int32))])) rfl rfl (hb hby d1_11) _ ?_
    rw [len_of Sz10 Nn10]
    show Steps p.tables e below (T8.setTop (mkF m 12 #[.val (.ref r1), .val (.ref b2), .val (.int (1 : Int32))] [(.int (2 : Int32)), (.int (1 : Int32))])) _
    refine XS.icmpNo X8.here hx rfl (hb hby d1_12) rfl (tlt (by decide : (1 : Int32) < (2 : Int32))).2.1 ?_
    show Steps p.tables e below (T8.setTop (mkF m 15 #[.val (.ref r1), .val (.ref b2), .val (.int (1 : Int32))] [])) _
    refine XS.aloadN X8.here hx rfl (hb hby d1_15) rfl rfl ?_
    show Steps p.tables e below (T8.setTop (mkF m 16 #[.val (.ref r1), .val (.ref b2), .val (.int (1 : Int32))] [(.ref b2)])) _
    refine XS.iloadN X8.here hx rfl (hb hby d1_16) rfl ?_
    show Steps p.tables e below (T8.setTop (mkF m 17 #[.val (.ref r1), .val (.ref b2), .val (.int (1 : Int32))] [(.int (1 : Int32)), (.ref b2)])) _
    refine XS.aloadN X8.here hx rfl (hb hby d1_17) rfl rfl ?_
    show Steps p.tables e below (T8.setTop (mkF m 18 #[.val (.ref r1), .val (.ref b2), .val (.int (1 : Int32))] [(.ref r1), (.int (1 : Int32)), (.ref b2)])) _
    refine XS.iconst X8.here hx rfl (hb hby d1_18) ?_
    show Steps p.tables e below (T8.setTop (mkF m 19 #[.val (.ref r1), .val (.ref b2), .val (.int (1 : Int32))] [(.int (2 : Int32)), (.ref r1), (.int (1 : Int32)), (.ref b2)])) _
    refine XS.iloadN X8.here hx rfl (hb hby d1_19) rfl ?_
    show Steps p.tables e below (T8.setTop (mkF m 20 #[.val (.ref r1), .val (.ref b2), .val (.int (1 : Int32))] [(.int (1 : Int32)), (.int (2 : Int32)), (.ref r1), (.int (1 : Int32)), (.ref b2)])) _
    refine XS.imul X8.here hx rfl (hb hby d1_20) rfl ?_
    show Steps p.tables e below (T8.setTop (mkF m 21 #[.val (.ref r1), .val (.ref b2), .val (.int (1 : Int32))] [(.int (2 : Int32)), (.ref r1), (.int (1 : Int32)), (.ref b2)])) _
    refine X8.baloadBytes hx (j := (2 : Int32)) (v := (.int e2_r1)) (by rw [e8]; exact Ar12.1) (State.isArrayOf_alike hZ.alike Ar12.2.1) Ar12.2.2 hin12 hat12 (g := (mkF m 21 #[.val (.ref r1), .val (.ref b2), .val (.int (1 : Int32))] [(.int (2 : Int32)), (.ref r1), (.int (1 : Int32)), (.ref b2)])) rfl rfl (hb hby d1_21) _ ?_
    show Steps p.tables e below (T8.setTop (mkF m 22 #[.val (.ref r1), .val (.ref b2), .val (.int (1 : Int32))] [(.int e2_r1), (.int (1 : Int32)), (.ref b2)])) _
    refine XS.sipush X8.here hx rfl (hb hby d1_22) ?_
    show Steps p.tables e below (T8.setTop (mkF m 25 #[.val (.ref r1), .val (.ref b2), .val (.int (1 : Int32))] [(.int (255 : Int32)), (.int e2_r1), (.int (1 : Int32)), (.ref b2)])) _
    refine XS.iand X8.here hx rfl (hb hby d1_25) rfl ?_
    show Steps p.tables e below (T8.setTop (mkF m 26 #[.val (.ref r1), .val (.ref b2), .val (.int (1 : Int32))] [(.int (e2_r1 &&& (255 : Int32))), (.int (1 : Int32)), (.ref b2)])) _
    refine XS.bipush X8.here hx rfl (hb hby d1_26) ?_
    show Steps p.tables e below (T8.setTop (mkF m 28 #[.val (.ref r1), .val (.ref b2), .val (.int (1 : Int32))] [(.int (8 : Int32)), (.int (e2_r1 &&& (255 : Int32))), (.int (1 : Int32)), (.ref b2)])) _
    refine XS.ishl X8.here hx rfl (hb hby d1_28) rfl ?_
    show Steps p.tables e below (T8.setTop (mkF m 29 #[.val (.ref r1), .val (.ref b2), .val (.int (1 : Int32))] [(.int ((e2_r1 &&& (255 : Int32)) <<< ((8 : Int32) &&& 31))), (.int (1 : Int32)), (.ref b2)])) _
    refine XS.aloadN X8.here hx rfl (hb hby d1_29) rfl rfl ?_
    show Steps p.tables e below (T8.setTop (mkF m 30 #[.val (.ref r1), .val (.ref b2), .val (.int (1 : Int32))] [(.ref r1), (.int ((e2_r1 &&& (255 : Int32)) <<< ((8 : Int32) &&& 31))), (.int (1 : Int32)), (.ref b2)])) _
    refine XS.iconst X8.here hx rfl (hb hby d1_30) ?_
    show Steps p.tables e below (T8.setTop (mkF m 31 #[.val (.ref r1), .val (.ref b2), .val (.int (1 : Int32))] [(.int (2 : Int32)), (.ref r1), (.int ((e2_r1 &&& (255 : Int32)) <<< ((8 : Int32) &&& 31))), (.int (1 : Int32)), (.ref b2)])) _
    refine XS.iloadN X8.here hx rfl (hb hby d1_31) rfl ?_
    show Steps p.tables e below (T8.setTop (mkF m 32 #[.val (.ref r1), .val (.ref b2), .val (.int (1 : Int32))] [(.int (1 : Int32)), (.int (2 : Int32)), (.ref r1), (.int ((e2_r1 &&& (255 : Int32)) <<< ((8 : Int32) &&& 31))), (.int (1 : Int32)), (.ref b2)])) _
    refine XS.imul X8.here hx rfl (hb hby d1_32) rfl ?_
    show Steps p.tables e below (T8.setTop (mkF m 33 #[.val (.ref r1), .val (.ref b2), .val (.int (1 : Int32))] [(.int (2 : Int32)), (.ref r1), (.int ((e2_r1 &&& (255 : Int32)) <<< ((8 : Int32) &&& 31))), (.int (1 : Int32)), (.ref b2)])) _
    refine XS.iconst X8.here hx rfl (hb hby d1_33) ?_
    show Steps p.tables e below (T8.setTop (mkF m 34 #[.val (.ref r1), .val (.ref b2), .val (.int (1 : Int32))] [(.int (1 : Int32)), (.int (2 : Int32)), (.ref r1), (.int ((e2_r1 &&& (255 : Int32)) <<< ((8 : Int32) &&& 31))), (.int (1 : Int32)), (.ref b2)])) _
    refine XS.iadd X8.here hx rfl (hb hby d1_34) rfl ?_
    show Steps p.tables e below (T8.setTop (mkF m 35 #[.val (.ref r1), .val (.ref b2), .val (.int (1 : Int32))] [(.int (3 : Int32)), (.ref r1), (.int ((e2_r1 &&& (255 : Int32)) <<< ((8 : Int32) &&& 31))), (.int (1 : Int32)), (.ref b2)])) _
    refine X8.baloadBytes hx (j := (3 : Int32)) (v := (.int e3_r1)) (by rw [e8]; exact Ar13.1) (State.isArrayOf_alike hZ.alike Ar13.2.1) Ar13.2.2 hin13 hat13 (g := (mkF m 35 #[.val (.ref r1), .val (.ref b2), .val (.int (1 : Int32))] [(.int (3 : Int32)), (.ref r1), (.int ((e2_r1 &&& (255 : Int32)) <<< ((8 : Int32) &&& 31))), (.int (1 : Int32)), (.ref b2)])) rfl rfl (hb hby d1_35) _ ?_
    show Steps p.tables e below (T8.setTop (mkF m 36 #[.val (.ref r1), .val (.ref b2), .val (.int (1 : Int32))] [(.int e3_r1), (.int ((e2_r1 &&& (255 : Int32)) <<< ((8 : Int32) &&& 31))), (.int (1 : Int32)), (.ref b2)])) _
    refine XS.sipush X8.here hx rfl (hb hby d1_36) ?_
    show Steps p.tables e below (T8.setTop (mkF m 39 #[.val (.ref r1), .val (.ref b2), .val (.int (1 : Int32))] [(.int (255 : Int32)), (.int e3_r1), (.int ((e2_r1 &&& (255 : Int32)) <<< ((8 : Int32) &&& 31))), (.int (1 : Int32)), (.ref b2)])) _
    refine XS.iand X8.here hx rfl (hb hby d1_39) rfl ?_
    show Steps p.tables e below (T8.setTop (mkF m 40 #[.val (.ref r1), .val (.ref b2), .val (.int (1 : Int32))] [(.int (e3_r1 &&& (255 : Int32))), (.int ((e2_r1 &&& (255 : Int32)) <<< ((8 : Int32) &&& 31))), (.int (1 : Int32)), (.ref b2)])) _
    refine XS.ior X8.here hx rfl (hb hby d1_40) rfl ?_
    show Steps p.tables e below (T8.setTop (mkF m 41 #[.val (.ref r1), .val (.ref b2), .val (.int (1 : Int32))] [(.int (((e2_r1 &&& (255 : Int32)) <<< ((8 : Int32) &&& 31)) ||| (e3_r1 &&& (255 : Int32)))), (.int (1 : Int32)), (.ref b2)])) _
    refine XS.i2c X8.here hx rfl (hb hby d1_41) rfl ?_
    show Steps p.tables e below (T8.setTop (mkF m 42 #[.val (.ref r1), .val (.ref b2), .val (.int (1 : Int32))] [(.int ((((e2_r1 &&& (255 : Int32)) <<< ((8 : Int32) &&& 31)) ||| (e3_r1 &&& (255 : Int32))).toUInt32.toUInt16.toUInt32.toInt32)), (.int (1 : Int32)), (.ref b2)])) _
    refine st14 _ ?_
    show Steps p.tables e below (T14.setTop (mkF m 43 #[.val (.ref r1), .val (.ref b2), .val (.int (1 : Int32))] [])) _
    refine XS.iinc X14.here hx rfl (hb hby d1_43) rfl (l' := #[.val (.ref r1), .val (.ref b2), .val (.int (2 : Int32))]) rfl ?_
    show Steps p.tables e below (T14.setTop (mkF m 46 #[.val (.ref r1), .val (.ref b2), .val (.int (2 : Int32))] [])) _
    refine XS.goto X14.here hx rfl (pc0 := 46) (pc' := 9) rfl (hb hby d1_46) (by decide) (by decide) ?_
    show Steps p.tables e below (T14.setTop (mkF m 9 #[.val (.ref r1), .val (.ref b2), .val (.int (2 : Int32))] [])) _
    refine XS.iloadN X14.here hx rfl (hb hby d1_9) rfl ?_
    show Steps p.tables e below (T14.setTop (mkF m 10 #[.val (.ref r1), .val (.ref b2), .val (.int (2 : Int32))] [(.int (2 : Int32))])) _
    refine XS.aloadN X14.here hx rfl (hb hby d1_10) rfl rfl ?_
    show Steps p.tables e below (T14.setTop (mkF m 11 #[.val (.ref r1), .val (.ref b2), .val (.int (2 : Int32))] [(.ref b2), (.int (2 : Int32))])) _
    refine X14.arraylength hx (by rw [e14]; exact Ar16.1) (State.isArrayOf_alike hZ.alike Ar16.2.1) (g := (mkF m 11 #[.val (.ref r1), .val (.ref b2), .val (.int (2 : Int32))] [(.ref b2), (.int (2 : Int32))])) rfl rfl (hb hby d1_11) _ ?_
    rw [len_of Sz16 Nn16]
    show Steps p.tables e below (T14.setTop (mkF m 12 #[.val (.ref r1), .val (.ref b2), .val (.int (2 : Int32))] [(.int (2 : Int32)), (.int (2 : Int32))])) _
    refine XS.icmpYes X14.here hx rfl (pc0 := 12) (pc' := 49) rfl (hb hby d1_12) rfl (flt (by decide : ¬ ((2 : Int32) < (2 : Int32)))).2.1 (by decide) (by decide) ?_
    show Steps p.tables e below (T14.setTop (mkF m 49 #[.val (.ref r1), .val (.ref b2), .val (.int (2 : Int32))] [])) _
    refine XS.aloadN X14.here hx rfl (hb hby d1_49) rfl rfl ?_
    exact k
  obtain ⟨fs, hr, hrun, hended, hW, hsame⟩ := X14.leave (v := some (.ref b2)) (fun h => by rw [Bd.returns] at h; cases h)
  refine ⟨_, _, pre17 _ ?_, hrun, hended, _, _, rfl, ?_, ⟨_, rfl⟩, hW, hsame.mono (by decide) (by decide)⟩
  · show Steps p.tables e below (T14.setTop (mkF m 50 #[.val (.ref r1), .val (.ref b2), .val (.int (2 : Int32))] [(.ref b2)])) _
    exact areturnOut X14 hx rfl Bd.returns rfl (hb hby d1_50) hr
  · show Q1d Z r1 e0_r1 e1_r1 e2_r1 e3_r1 k_r1 h0 n0 _ T14.heap _
    rw [e14]
    exact ⟨b2, k2, rfl, N14, K15, sz_b2, V14⟩
def Q1e (Z : State) (r1 : Addr) (e0_r1 : Int32) (e1_r1 : Int32) (e2_r1 : Int32) (e3_r1 : Int32) (e4_r1 : Int32) (k_r1 : ClassId) (h0 : Heap) (n0 : Nat) (v : Option Value) (h : Heap) (L : List Loc) : Prop := ∃ (b2 : Addr), ∃ (k2 : ClassId), v = some (.ref b2) ∧ Fr n0 L ∧ Keep h0 h [] ∧ h0.size ≤ b2 ∧ Arv Z h b2 k2 .char (2 : Int32) [(.int (nar .char ((((e0_r1 &&& (255 : Int32)) <<< ((8 : Int32) &&& 31)) ||| (e1_r1 &&& (255 : Int32))).toUInt32.toUInt16.toUInt32.toInt32))), (.int (nar .char ((((e2_r1 &&& (255 : Int32)) <<< ((8 : Int32) &&& 31)) ||| (e3_r1 &&& (255 : Int32))).toUInt32.toUInt16.toUInt32.toInt32)))] (.int (0 : Int32))
theorem ef_1e (m : MethodId) (x0 : Addr) : entryFrame m #[(.ref x0)] 3 = mkF m 0 #[.val (.ref x0), .unset, .unset] [] := by first | (simp [entryFrame, mkF, argsToLocals, Value.category]; done) | rfl
set_option maxRecDepth 65536 in
set_option maxHeartbeats 40000000 in
theorem rm1e (l : Launch) (Z : State) (a0 : Array Value) (hw : ∀ d ∈ tables_1, d.before a0 Z = true) (ws : List Jvm.Cond) (r1 : Addr) (e0_r1 : Int32) (e1_r1 : Int32) (e2_r1 : Int32) (e3_r1 : Int32) (e4_r1 : Int32) (k_r1 : ClassId) (h0 : Heap) (n0 : Nat) (Z0 : n0 ≤ h0.size) (V_r1 : Arv Z h0 r1 k_r1 .byte (5 : Int32) [(.int e0_r1), (.int e1_r1), (.int e2_r1), (.int e3_r1), (.int e4_r1)] (.int (0 : Int32))) :
    MetFree l (⟨"com/example/aschenputtel/aschenputtel/values/UcaWeights", "keyCharacters", "([B)[C"⟩ : MethodName) (head1 (Jvm.Cond.code (⟨"com/example/aschenputtel/aschenputtel/values/UcaWeights", "keyCharacters", "([B)[C"⟩ : MethodName) prog_155_method_25_code 3 (some (.array .char)) :: ws) ({ frames := 0, cells := 1, slots := 2, locals := 0 } : Room)) (fun a U => a = #[(.ref r1)] ∧ Z.Warmed39 U.vm ∧ U.heap = h0) (fun _ _ _ _ _ => True) (fun _ U o U' => ∃ v L, o = .returned v ∧ Q1e Z r1 e0_r1 e1_r1 e2_r1 e3_r1 e4_r1 k_r1 h0 n0 v U'.heap L ∧ FrameEnd U o U' L ({ frames := 0, cells := 1, slots := 2, locals := 0 } : Room).cells ({ frames := 0, cells := 1, slots := 2, locals := 0 } : Room).slots) := by
  refine MetFree.of_bodySF (plainFor_of_name pn_0) hisR ?_
  intro p e s m args below meth c s₁ Bd hml0 hP hK
  obtain ⟨rfl, hZ, hh⟩ := hP
  have hx := Bd.exec
  have hby := Bd.bytes
  have hml : c.maxLocals = 3 := hml0
  have hown : s.vm.findClass "com/example/aschenputtel/aschenputtel/values/UcaWeights" = some m.cls := findClass_of_methodNamed Bd.named
  have hnm := (name_of_methodNamed Bd.named Bd.method).1
  have X0 : Stand p l e ({ frames := 0, cells := 1, slots := 2, locals := 0 } : Room) s m #[(.ref r1)] below meth c s₁ [] 0 0 := Stand.of_body Bd
  have e0 : s₁.heap = h0 := by rw [← hh, Bd.state]; rfl
  have N0 := Fr.nil n0
  have pre0 : ∀ t, Steps p.tables e below (s₁.setTop (mkF m 0 #[.val (.ref r1), .unset, .unset] [])) t → Steps p.tables e below (s₁.setTop (entryFrame m #[(.ref r1)] 3)) t := fun t k => castTop (ef_1e m r1) k
  obtain ⟨cl1, Ar1, -, Sz1, Nn1, -, -⟩ := id V_r1
  obtain ⟨T2, h2, k2, X2, e2, E2, A2, st2⟩ := newP X0 hx hZ (hw _ (List.mem_of_getElem? (i := 6) rfl)) e0 (g := (mkF m 4 #[.val (.ref r1), .unset, .unset] [(.int (2 : Int32))])) rfl (hb hby d1_4) rfl (by decide) (cap := 2) (by decide) (by decide) (by decide) (by decide)
  obtain ⟨b2, g2⟩ : ∃ z, z = h0.size := ⟨_, rfl⟩
  rw [← g2] at A2 st2
  have sz_b2 : h0.size ≤ b2 := Nat.le_trans (Keep.refl h0 []).1 (Nat.le_of_eq g2.symm)
  have K3 : Keep h0 h2 [] := (Keep.refl h0 []).ext E2
  have V2 : Arv Z h2 b2 k2 .char (2 : Int32) [(.int (0 : Int32)), (.int (0 : Int32))] (.int (0 : Int32)) := (Arv.new A2 (by decide)).pad (pad_rep [] (.int (0 : Int32)) 2)
  obtain ⟨cl4, Ar4, -, Sz4, Nn4, -, -⟩ := id V2
  have f5 := (V_r1.ext E2)
  obtain ⟨cl6, Ar6, Cq6, Sz6, Nn6, Hh6, Gg6⟩ := id f5
  have hin6 : ¬ ((0 : Int32) < 0 ∨ cl6.slots.size ≤ ((0 : Int32)).toNatClampNeg) := inb_of Sz6 ⟨by decide, by decide⟩
  have hat6 : cl6.slots[((0 : Int32)).toNatClampNeg]? = some (.int e0_r1) := Hh6.at hin6 rfl
  obtain ⟨cl7, Ar7, Cq7, Sz7, Nn7, Hh7, Gg7⟩ := id f5
  have hin7 : ¬ ((1 : Int32) < 0 ∨ cl7.slots.size ≤ ((1 : Int32)).toNatClampNeg) := inb_of Sz7 ⟨by decide, by decide⟩
  have hat7 : cl7.slots[((1 : Int32)).toNatClampNeg]? = some (.int e1_r1) := Hh7.at hin7 rfl
  obtain ⟨cl8, Ar8, Cq8, Sz8, Nn8, Hh8, Gg8⟩ := id V2
  have hin8 : ¬ ((0 : Int32) < 0 ∨ cl8.slots.size ≤ ((0 : Int32)).toNatClampNeg) := inb_of Sz8 ⟨by decide, by decide⟩
  obtain ⟨T8, h8, X8, e8, W8, st8⟩ := stC X2 hx hZ e2 Ar8 (j := (0 : Int32)) hin8 (g := (mkF m 42 #[.val (.ref r1), .val (.ref b2), .val (.int (0 : Int32))] [(.int ((((e0_r1 &&& (255 : Int32)) <<< ((8 : Int32) &&& 31)) ||| (e1_r1 &&& (255 : Int32))).toUInt32.toUInt16.toUInt32.toInt32)), (.int (0 : Int32)), (.ref b2)])) rfl rfl (hb hby d1_42)
  have V8 : Arv Z h8 b2 k2 .char (2 : Int32) [(.int (nar .char ((((e0_r1 &&& (255 : Int32)) <<< ((8 : Int32) &&& 31)) ||| (e1_r1 &&& (255 : Int32))).toUInt32.toUInt16.toUInt32.toInt32))), (.int (0 : Int32))] (.int (0 : Int32)) := Arv.set Ar8 Cq8 Sz8 Nn8 Hh8 Gg8 (fits_nar_char _) W8 0 rfl (Nat.le_of_ble_eq_true rfl)
  have N8 := Fr.snoc X8 N0 (Nat.le_trans Z0 sz_b2)
  have K9 : Keep h0 h8 [] := K3.wr W8 (Or.inr sz_b2)
  obtain ⟨cl10, Ar10, -, Sz10, Nn10, -, -⟩ := id V8
  have f11 := (f5.other W8 (Nat.ne_of_lt (Nat.lt_of_lt_of_le V_r1.lt (Nat.le_trans (Nat.le_refl _) (Nat.le_of_eq g2.symm)))))
  obtain ⟨cl12, Ar12, Cq12, Sz12, Nn12, Hh12, Gg12⟩ := id f11
  have hin12 : ¬ ((2 : Int32) < 0 ∨ cl12.slots.size ≤ ((2 : Int32)).toNatClampNeg) := inb_of Sz12 ⟨by decide, by decide⟩
  have hat12 : cl12.slots[((2 : Int32)).toNatClampNeg]? = some (.int e2_r1) := Hh12.at hin12 rfl
  obtain ⟨cl13, Ar13, Cq13, Sz13, Nn13, Hh13, Gg13⟩ := id f11
  have hin13 : ¬ ((3 : Int32) < 0 ∨ cl13.slots.size ≤ ((3 : Int32)).toNatClampNeg) := inb_of Sz13 ⟨by decide, by decide⟩
  have hat13 : cl13.slots[((3 : Int32)).toNatClampNeg]? = some (.int e3_r1) := Hh13.at hin13 rfl
  obtain ⟨cl14, Ar14, Cq14, Sz14, Nn14, Hh14, Gg14⟩ := id V8
  have hin14 : ¬ ((1 : Int32) < 0 ∨ cl14.slots.size ≤ ((1 : Int32)).toNatClampNeg) := inb_of Sz14 ⟨by decide, by decide⟩
  obtain ⟨T14, h14, X14, e14, W14, st14⟩ := stC X8 hx hZ e8 Ar14 (j := (1 : Int32)) hin14 (g := (mkF m 42 #[.val (.ref r1), .val (.ref b2), .val (.int (1 : Int32))] [(.int ((((e2_r1 &&& (255 : Int32)) <<< ((8 : Int32) &&& 31)) ||| (e3_r1 &&& (255 : Int32))).toUInt32.toUInt16.toUInt32.toInt32)), (.int (1 : Int32)), (.ref b2)])) rfl rfl (hb hby d1_42)
  have V14 : Arv Z h14 b2 k2 .char (2 : Int32) [(.int (nar .char ((((e0_r1 &&& (255 : Int32)) <<< ((8 : Int32) &&& 31)) ||| (e1_r1 &&& (255 : Int32))).toUInt32.toUInt16.toUInt32.toInt32))), (.int (nar .char ((((e2_r1 &&& (255 : Int32)) <<< ((8 : Int32) &&& 31)) ||| (e3_r1 &&& (255 : Int32))).toUInt32.toUInt16.toUInt32.toInt32)))] (.int (0 : Int32)) := Arv.set Ar14 Cq14 Sz14 Nn14 Hh14 Gg14 (fits_nar_char _) W14 1 rfl (Nat.le_of_ble_eq_true rfl)
  have N14 := Fr.snoc X14 N8 (Nat.le_trans Z0 sz_b2)
  have K15 : Keep h0 h14 [] := K9.wr W14 (Or.inr sz_b2)
  obtain ⟨cl16, Ar16, -, Sz16, Nn16, -, -⟩ := id V14
  have pre17 : ∀ t, Steps p.tables e below (T14.setTop (mkF m 50 #[.val (.ref r1), .val (.ref b2), .val (.int (2 : Int32))] [(.ref b2)])) t → Steps p.tables e below (s₁.setTop (entryFrame m #[(.ref r1)] 3)) t := by
    intro t k
    refine pre0 _ ?_
    show Steps p.tables e below (s₁.setTop (mkF m 0 #[.val (.ref r1), .unset, .unset] [])) _
    refine XS.aloadN X0.here hx rfl (hb hby d1_0) rfl rfl ?_
    show Steps p.tables e below (s₁.setTop (mkF m 1 #[.val (.ref r1), .unset, .unset] [(.ref r1)])) _
    refine X0.arraylength hx (by rw [e0]; exact Ar1.1) (State.isArrayOf_alike hZ.alike Ar1.2.1) (g := (mkF m 1 #[.val (.ref r1), .unset, .unset] [(.ref r1)])) rfl rfl (hb hby d1_1) _ ?_
    rw [len_of Sz1 Nn1]
    show Steps p.tables e below (s₁.setTop (mkF m 2 #[.val (.ref r1), .unset, .unset] [(.int (5 : Int32))])) _
    refine XS.iconst X0.here hx rfl (hb hby d1_2) ?_
    show Steps p.tables e below (s₁.setTop (mkF m 3 #[.val (.ref r1), .unset, .unset] [(.int (2 : Int32)), (.int (5 : Int32))])) _
    refine XS.idiv X0.here hx rfl (hb hby d1_3) rfl (by decide) ?_
    show Steps p.tables e below (s₁.setTop (mkF m 4 #[.val (.ref r1), .unset, .unset] [(.int (2 : Int32))])) _
    refine st2 _ ?_
    show Steps p.tables e below (T2.setTop (mkF m 6 #[.val (.ref r1), .unset, .unset] [(.ref b2)])) _
    refine XS.astoreN X2.here hx rfl (hb hby d1_6) rfl rfl (l' := #[.val (.ref r1), .val (.ref b2), .unset]) rfl ?_
    show Steps p.tables e below (T2.setTop (mkF m 7 #[.val (.ref r1), .val (.ref b2), .unset] [])) _
    refine XS.iconst X2.here hx rfl (hb hby d1_7) ?_
    show Steps p.tables e below (T2.setTop (mkF m 8 #[.val (.ref r1), .val (.ref b2), .unset] [(.int (0 : Int32))])) _
    refine XS.istoreN X2.here hx rfl (hb hby d1_8) rfl (l' := #[.val (.ref r1), .val (.ref b2), .val (.int (0 : Int32))]) rfl ?_
    show Steps p.tables e below (T2.setTop (mkF m 9 #[.val (.ref r1), .val (.ref b2), .val (.int (0 : Int32))] [])) _
    refine XS.iloadN X2.here hx rfl (hb hby d1_9) rfl ?_
    show Steps p.tables e below (T2.setTop (mkF m 10 #[.val (.ref r1), .val (.ref b2), .val (.int (0 : Int32))] [(.int (0 : Int32))])) _
    refine XS.aloadN X2.here hx rfl (hb hby d1_10) rfl rfl ?_
    show Steps p.tables e below (T2.setTop (mkF m 11 #[.val (.ref r1), .val (.ref b2), .val (.int (0 : Int32))] [(.ref b2), (.int (0 : Int32))])) _
    refine X2.arraylength hx (by rw [e2]; exact Ar4.1) (State.isArrayOf_alike hZ.alike Ar4.2.1) (g := (mkF m 11 #[.val (.ref r1), .val (.ref b2), .val (.int (0 : Int32))] [(.ref b2), (.int (0 : Int32))])) rfl rfl (hb hby d1_11) _ ?_
    rw [len_of Sz4 Nn4]
    show Steps p.tables e below (T2.setTop (mkF m 12 #[.val (.ref r1), .val (.ref b2), .val (.int (0 : Int32))] [(.int (2 : Int32)), (.int (0 : Int32))])) _
    refine XS.icmpNo X2.here hx rfl (hb hby d1_12) rfl (tlt (by decide : (0 : Int32) < (2 : Int32))).2.1 ?_
    show Steps p.tables e below (T2.setTop (mkF m 15 #[.val (.ref r1), .val (.ref b2), .val (.int (0 : Int32))] [])) _
    refine XS.aloadN X2.here hx rfl (hb hby d1_15) rfl rfl ?_
    show Steps p.tables e below (T2.setTop (mkF m 16 #[.val (.ref r1), .val (.ref b2), .val (.int (0 : Int32))] [(.ref b2)])) _
    refine XS.iloadN X2.here hx rfl (hb hby d1_16) rfl ?_
    show Steps p.tables e below (T2.setTop (mkF m 17 #[.val (.ref r1), .val (.ref b2), .val (.int (0 : Int32))] [(.int (0 : Int32)), (.ref b2)])) _
    refine XS.aloadN X2.here hx rfl (hb hby d1_17) rfl rfl ?_
    show Steps p.tables e below (T2.setTop (mkF m 18 #[.val (.ref r1), .val (.ref b2), .val (.int (0 : Int32))] [(.ref r1), (.int (0 : Int32)), (.ref b2)])) _
    refine XS.iconst X2.here hx rfl (hb hby d1_18) ?_
    show Steps p.tables e below (T2.setTop (mkF m 19 #[.val (.ref r1), .val (.ref b2), .val (.int (0 : Int32))] [(.int (2 : Int32)), (.ref r1), (.int (0 : Int32)), (.ref b2)])) _
    refine XS.iloadN X2.here hx rfl (hb hby d1_19) rfl ?_
    show Steps p.tables e below (T2.setTop (mkF m 20 #[.val (.ref r1), .val (.ref b2), .val (.int (0 : Int32))] [(.int (0 : Int32)), (.int (2 : Int32)), (.ref r1), (.int (0 : Int32)), (.ref b2)])) _
    refine XS.imul X2.here hx rfl (hb hby d1_20) rfl ?_
    show Steps p.tables e below (T2.setTop (mkF m 21 #[.val (.ref r1), .val (.ref b2), .val (.int (0 : Int32))] [(.int (0 : Int32)), (.ref r1), (.int (0 : Int32)), (.ref b2)])) _
    refine X2.baloadBytes hx (j := (0 : Int32)) (v := (.int e0_r1)) (by rw [e2]; exact Ar6.1) (State.isArrayOf_alike hZ.alike Ar6.2.1) Ar6.2.2 hin6 hat6 (g := (mkF m 21 #[.val (.ref r1), .val (.ref b2), .val (.int (0 : Int32))] [(.int (0 : Int32)), (.ref r1), (.int (0 : Int32)), (.ref b2)])) rfl rfl (hb hby d1_21) _ ?_
    show Steps p.tables e below (T2.setTop (mkF m 22 #[.val (.ref r1), .val (.ref b2), .val (.int (0 : Int32))] [(.int e0_r1), (.int (0 : Int32)), (.ref b2)])) _
    refine XS.sipush X2.here hx rfl (hb hby d1_22) ?_
    show Steps p.tables e below (T2.setTop (mkF m 25 #[.val (.ref r1), .val (.ref b2), .val (.int (0 : Int32))] [(.int (255 : Int32)), (.int e0_r1), (.int (0 : Int32)), (.ref b2)])) _
    refine XS.iand X2.here hx rfl (hb hby d1_25) rfl ?_
    show Steps p.tables e below (T2.setTop (mkF m 26 #[.val (.ref r1), .val (.ref b2), .val (.int (0 : Int32))] [(.int (e0_r1 &&& (255 : Int32))), (.int (0 : Int32)), (.ref b2)])) _
    refine XS.bipush X2.here hx rfl (hb hby d1_26) ?_
    show Steps p.tables e below (T2.setTop (mkF m 28 #[.val (.ref r1), .val (.ref b2), .val (.int (0 : Int32))] [(.int (8 : Int32)), (.int (e0_r1 &&& (255 : Int32))), (.int (0 : Int32)), (.ref b2)])) _
    refine XS.ishl X2.here hx rfl (hb hby d1_28) rfl ?_
    show Steps p.tables e below (T2.setTop (mkF m 29 #[.val (.ref r1), .val (.ref b2), .val (.int (0 : Int32))] [(.int ((e0_r1 &&& (255 : Int32)) <<< ((8 : Int32) &&& 31))), (.int (0 : Int32)), (.ref b2)])) _
    refine XS.aloadN X2.here hx rfl (hb hby d1_29) rfl rfl ?_
    show Steps p.tables e below (T2.setTop (mkF m 30 #[.val (.ref r1), .val (.ref b2), .val (.int (0 : Int32))] [(.ref r1), (.int ((e0_r1 &&& (255 : Int32)) <<< ((8 : Int32) &&& 31))), (.int (0 : Int32)), (.ref b2)])) _
    refine XS.iconst X2.here hx rfl (hb hby d1_30) ?_
    show Steps p.tables e below (T2.setTop (mkF m 31 #[.val (.ref r1), .val (.ref b2), .val (.int (0 : Int32))] [(.int (2 : Int32)), (.ref r1), (.int ((e0_r1 &&& (255 : Int32)) <<< ((8 : Int32) &&& 31))), (.int (0 : Int32)), (.ref b2)])) _
    refine XS.iloadN X2.here hx rfl (hb hby d1_31) rfl ?_
    show Steps p.tables e below (T2.setTop (mkF m 32 #[.val (.ref r1), .val (.ref b2), .val (.int (0 : Int32))] [(.int (0 : Int32)), (.int (2 : Int32)), (.ref r1), (.int ((e0_r1 &&& (255 : Int32)) <<< ((8 : Int32) &&& 31))), (.int (0 : Int32)), (.ref b2)])) _
    refine XS.imul X2.here hx rfl (hb hby d1_32) rfl ?_
    show Steps p.tables e below (T2.setTop (mkF m 33 #[.val (.ref r1), .val (.ref b2), .val (.int (0 : Int32))] [(.int (0 : Int32)), (.ref r1), (.int ((e0_r1 &&& (255 : Int32)) <<< ((8 : Int32) &&& 31))), (.int (0 : Int32)), (.ref b2)])) _
    refine XS.iconst X2.here hx rfl (hb hby d1_33) ?_
    show Steps p.tables e below (T2.setTop (mkF m 34 #[.val (.ref r1), .val (.ref b2), .val (.int (0 : Int32))] [(.int (1 : Int32)), (.int (0 : Int32)), (.ref r1), (.int ((e0_r1 &&& (255 : Int32)) <<< ((8 : Int32) &&& 31))), (.int (0 : Int32)), (.ref b2)])) _
    refine XS.iadd X2.here hx rfl (hb hby d1_34) rfl ?_
    show Steps p.tables e below (T2.setTop (mkF m 35 #[.val (.ref r1), .val (.ref b2), .val (.int (0 : Int32))] [(.int (1 : Int32)), (.ref r1), (.int ((e0_r1 &&& (255 : Int32)) <<< ((8 : Int32) &&& 31))), (.int (0 : Int32)), (.ref b2)])) _
    refine X2.baloadBytes hx (j := (1 : Int32)) (v := (.int e1_r1)) (by rw [e2]; exact Ar7.1) (State.isArrayOf_alike hZ.alike Ar7.2.1) Ar7.2.2 hin7 hat7 (g := (mkF m 35 #[.val (.ref r1), .val (.ref b2), .val (.int (0 : Int32))] [(.int (1 : Int32)), (.ref r1), (.int ((e0_r1 &&& (255 : Int32)) <<< ((8 : Int32) &&& 31))), (.int (0 : Int32)), (.ref b2)])) rfl rfl (hb hby d1_35) _ ?_
    show Steps p.tables e below (T2.setTop (mkF m 36 #[.val (.ref r1), .val (.ref b2), .val (.int (0 : Int32))] [(.int e1_r1), (.int ((e0_r1 &&& (255 : Int32)) <<< ((8 : Int32) &&& 31))), (.int (0 : Int32)), (.ref b2)])) _
    refine XS.sipush X2.here hx rfl (hb hby d1_36) ?_
    show Steps p.tables e below (T2.setTop (mkF m 39 #[.val (.ref r1), .val (.ref b2), .val (.int (0 : Int32))] [(.int (255 : Int32)), (.int e1_r1), (.int ((e0_r1 &&& (255 : Int32)) <<< ((8 : Int32) &&& 31))), (.int (0 : Int32)), (.ref b2)])) _
    refine XS.iand X2.here hx rfl (hb hby d1_39) rfl ?_
    show Steps p.tables e below (T2.setTop (mkF m 40 #[.val (.ref r1), .val (.ref b2), .val (.int (0 : Int32))] [(.int (e1_r1 &&& (255 : Int32))), (.int ((e0_r1 &&& (255 : Int32)) <<< ((8 : Int32) &&& 31))), (.int (0 : Int32)), (.ref b2)])) _
    refine XS.ior X2.here hx rfl (hb hby d1_40) rfl ?_
    show Steps p.tables e below (T2.setTop (mkF m 41 #[.val (.ref r1), .val (.ref b2), .val (.int (0 : Int32))] [(.int (((e0_r1 &&& (255 : Int32)) <<< ((8 : Int32) &&& 31)) ||| (e1_r1 &&& (255 : Int32)))), (.int (0 : Int32)), (.ref b2)])) _
    refine XS.i2c X2.here hx rfl (hb hby d1_41) rfl ?_
    show Steps p.tables e below (T2.setTop (mkF m 42 #[.val (.ref r1), .val (.ref b2), .val (.int (0 : Int32))] [(.int ((((e0_r1 &&& (255 : Int32)) <<< ((8 : Int32) &&& 31)) ||| (e1_r1 &&& (255 : Int32))).toUInt32.toUInt16.toUInt32.toInt32)), (.int (0 : Int32)), (.ref b2)])) _
    refine st8 _ ?_
    show Steps p.tables e below (T8.setTop (mkF m 43 #[.val (.ref r1), .val (.ref b2), .val (.int (0 : Int32))] [])) _
    refine XS.iinc X8.here hx rfl (hb hby d1_43) rfl (l' := #[.val (.ref r1), .val (.ref b2), .val (.int (1 : Int32))]) rfl ?_
    show Steps p.tables e below (T8.setTop (mkF m 46 #[.val (.ref r1), .val (.ref b2), .val (.int (1 : Int32))] [])) _
    refine XS.goto X8.here hx rfl (pc0 := 46) (pc' := 9) rfl (hb hby d1_46) (by decide) (by decide) ?_
    show Steps p.tables e below (T8.setTop (mkF m 9 #[.val (.ref r1), .val (.ref b2), .val (.int (1 : Int32))] [])) _
    refine XS.iloadN X8.here hx rfl (hb hby d1_9) rfl ?_
    show Steps p.tables e below (T8.setTop (mkF m 10 #[.val (.ref r1), .val (.ref b2), .val (.int (1 : Int32))] [(.int (1 : Int32))])) _
    refine XS.aloadN X8.here hx rfl (hb hby d1_10) rfl rfl ?_
    show Steps p.tables e below (T8.setTop (mkF m 11 #[.val (.ref r1), .val (.ref b2), .val (.int (1 : Int32))] [(.ref b2), (.int (1 : Int32))])) _
    refine X8.arraylength hx (by rw [e8]; exact Ar10.1) (State.isArrayOf_alike hZ.alike Ar10.2.1) (g := (mkF m 11 #[.val (.ref r1), .val (.ref b2), .val (.int (1 : Int32))] [(.ref b2), (.int (1 : Int32))])) rfl rfl (hb hby d1_11) _ ?_
    rw [len_of Sz10 Nn10]
    show Steps p.tables e below (T8.setTop (mkF m 12 #[.val (.ref r1), .val (.ref b2), .val (.int (1 : Int32))] [(.int (2 : Int32)), (.int (1 : Int32))])) _
    refine XS.icmpNo X8.here hx rfl (hb hby d1_12) rfl (tlt (by decide : (1 : Int32) < (2 : Int32))).2.1 ?_
    show Steps p.tables e below (T8.setTop (mkF m 15 #[.val (.ref r1), .val (.ref b2), .val (.int (1 : Int32))] [])) _
    refine XS.aloadN X8.here hx rfl (hb hby d1_15) rfl rfl ?_
    show Steps p.tables e below (T8.setTop (mkF m 16 #[.val (.ref r1), .val (.ref b2), .val (.int (1 : Int32))] [(.ref b2)])) _
    refine XS.iloadN X8.here hx rfl (hb hby d1_16) rfl ?_
    show Steps p.tables e below (T8.setTop (mkF m 17 #[.val (.ref r1), .val (.ref b2), .val (.int (1 : Int32))] [(.int (1 : Int32)), (.ref b2)])) _
    refine XS.aloadN X8.here hx rfl (hb hby d1_17) rfl rfl ?_
    show Steps p.tables e below (T8.setTop (mkF m 18 #[.val (.ref r1), .val (.ref b2), .val (.int (1 : Int32))] [(.ref r1), (.int (1 : Int32)), (.ref b2)])) _
    refine XS.iconst X8.here hx rfl (hb hby d1_18) ?_
    show Steps p.tables e below (T8.setTop (mkF m 19 #[.val (.ref r1), .val (.ref b2), .val (.int (1 : Int32))] [(.int (2 : Int32)), (.ref r1), (.int (1 : Int32)), (.ref b2)])) _
    refine XS.iloadN X8.here hx rfl (hb hby d1_19) rfl ?_
    show Steps p.tables e below (T8.setTop (mkF m 20 #[.val (.ref r1), .val (.ref b2), .val (.int (1 : Int32))] [(.int (1 : Int32)), (.int (2 : Int32)), (.ref r1), (.int (1 : Int32)), (.ref b2)])) _
    refine XS.imul X8.here hx rfl (hb hby d1_20) rfl ?_
    show Steps p.tables e below (T8.setTop (mkF m 21 #[.val (.ref r1), .val (.ref b2), .val (.int (1 : Int32))] [(.int (2 : Int32)), (.ref r1), (.int (1 : Int32)), (.ref b2)])) _
    refine X8.baloadBytes hx (j := (2 : Int32)) (v := (.int e2_r1)) (by rw [e8]; exact Ar12.1) (State.isArrayOf_alike hZ.alike Ar12.2.1) Ar12.2.2 hin12 hat12 (g := (mkF m 21 #[.val (.ref r1), .val (.ref b2), .val (.int (1 : Int32))] [(.int (2 : Int32)), (.ref r1), (.int (1 : Int32)), (.ref b2)])) rfl rfl (hb hby d1_21) _ ?_
    show Steps p.tables e below (T8.setTop (mkF m 22 #[.val (.ref r1), .val (.ref b2), .val (.int (1 : Int32))] [(.int e2_r1), (.int (1 : Int32)), (.ref b2)])) _
    refine XS.sipush X8.here hx rfl (hb hby d1_22) ?_
    show Steps p.tables e below (T8.setTop (mkF m 25 #[.val (.ref r1), .val (.ref b2), .val (.int (1 : Int32))] [(.int (255 : Int32)), (.int e2_r1), (.int (1 : Int32)), (.ref b2)])) _
    refine XS.iand X8.here hx rfl (hb hby d1_25) rfl ?_
    show Steps p.tables e below (T8.setTop (mkF m 26 #[.val (.ref r1), .val (.ref b2), .val (.int (1 : Int32))] [(.int (e2_r1 &&& (255 : Int32))), (.int (1 : Int32)), (.ref b2)])) _
    refine XS.bipush X8.here hx rfl (hb hby d1_26) ?_
    show Steps p.tables e below (T8.setTop (mkF m 28 #[.val (.ref r1), .val (.ref b2), .val (.int (1 : Int32))] [(.int (8 : Int32)), (.int (e2_r1 &&& (255 : Int32))), (.int (1 : Int32)), (.ref b2)])) _
    refine XS.ishl X8.here hx rfl (hb hby d1_28) rfl ?_
    show Steps p.tables e below (T8.setTop (mkF m 29 #[.val (.ref r1), .val (.ref b2), .val (.int (1 : Int32))] [(.int ((e2_r1 &&& (255 : Int32)) <<< ((8 : Int32) &&& 31))), (.int (1 : Int32)), (.ref b2)])) _
    refine XS.aloadN X8.here hx rfl (hb hby d1_29) rfl rfl ?_
    show Steps p.tables e below (T8.setTop (mkF m 30 #[.val (.ref r1), .val (.ref b2), .val (.int (1 : Int32))] [(.ref r1), (.int ((e2_r1 &&& (255 : Int32)) <<< ((8 : Int32) &&& 31))), (.int (1 : Int32)), (.ref b2)])) _
    refine XS.iconst X8.here hx rfl (hb hby d1_30) ?_
    show Steps p.tables e below (T8.setTop (mkF m 31 #[.val (.ref r1), .val (.ref b2), .val (.int (1 : Int32))] [(.int (2 : Int32)), (.ref r1), (.int ((e2_r1 &&& (255 : Int32)) <<< ((8 : Int32) &&& 31))), (.int (1 : Int32)), (.ref b2)])) _
    refine XS.iloadN X8.here hx rfl (hb hby d1_31) rfl ?_
    show Steps p.tables e below (T8.setTop (mkF m 32 #[.val (.ref r1), .val (.ref b2), .val (.int (1 : Int32))] [(.int (1 : Int32)), (.int (2 : Int32)), (.ref r1), (.int ((e2_r1 &&& (255 : Int32)) <<< ((8 : Int32) &&& 31))), (.int (1 : Int32)), (.ref b2)])) _
    refine XS.imul X8.here hx rfl (hb hby d1_32) rfl ?_
    show Steps p.tables e below (T8.setTop (mkF m 33 #[.val (.ref r1), .val (.ref b2), .val (.int (1 : Int32))] [(.int (2 : Int32)), (.ref r1), (.int ((e2_r1 &&& (255 : Int32)) <<< ((8 : Int32) &&& 31))), (.int (1 : Int32)), (.ref b2)])) _
    refine XS.iconst X8.here hx rfl (hb hby d1_33) ?_
    show Steps p.tables e below (T8.setTop (mkF m 34 #[.val (.ref r1), .val (.ref b2), .val (.int (1 : Int32))] [(.int (1 : Int32)), (.int (2 : Int32)), (.ref r1), (.int ((e2_r1 &&& (255 : Int32)) <<< ((8 : Int32) &&& 31))), (.int (1 : Int32)), (.ref b2)])) _
    refine XS.iadd X8.here hx rfl (hb hby d1_34) rfl ?_
    show Steps p.tables e below (T8.setTop (mkF m 35 #[.val (.ref r1), .val (.ref b2), .val (.int (1 : Int32))] [(.int (3 : Int32)), (.ref r1), (.int ((e2_r1 &&& (255 : Int32)) <<< ((8 : Int32) &&& 31))), (.int (1 : Int32)), (.ref b2)])) _
    refine X8.baloadBytes hx (j := (3 : Int32)) (v := (.int e3_r1)) (by rw [e8]; exact Ar13.1) (State.isArrayOf_alike hZ.alike Ar13.2.1) Ar13.2.2 hin13 hat13 (g := (mkF m 35 #[.val (.ref r1), .val (.ref b2), .val (.int (1 : Int32))] [(.int (3 : Int32)), (.ref r1), (.int ((e2_r1 &&& (255 : Int32)) <<< ((8 : Int32) &&& 31))), (.int (1 : Int32)), (.ref b2)])) rfl rfl (hb hby d1_35) _ ?_
    show Steps p.tables e below (T8.setTop (mkF m 36 #[.val (.ref r1), .val (.ref b2), .val (.int (1 : Int32))] [(.int e3_r1), (.int ((e2_r1 &&& (255 : Int32)) <<< ((8 : Int32) &&& 31))), (.int (1 : Int32)), (.ref b2)])) _
    refine XS.sipush X8.here hx rfl (hb hby d1_36) ?_
    show Steps p.tables e below (T8.setTop (mkF m 39 #[.val (.ref r1), .val (.ref b2), .val (.int (1 : Int32))] [(.int (255 : Int32)), (.int e3_r1), (.int ((e2_r1 &&& (255 : Int32)) <<< ((8 : Int32) &&& 31))), (.int (1 : Int32)), (.ref b2)])) _
    refine XS.iand X8.here hx rfl (hb hby d1_39) rfl ?_
    show Steps p.tables e below (T8.setTop (mkF m 40 #[.val (.ref r1), .val (.ref b2), .val (.int (1 : Int32))] [(.int (e3_r1 &&& (255 : Int32))), (.int ((e2_r1 &&& (255 : Int32)) <<< ((8 : Int32) &&& 31))), (.int (1 : Int32)), (.ref b2)])) _
    refine XS.ior X8.here hx rfl (hb hby d1_40) rfl ?_
    show Steps p.tables e below (T8.setTop (mkF m 41 #[.val (.ref r1), .val (.ref b2), .val (.int (1 : Int32))] [(.int (((e2_r1 &&& (255 : Int32)) <<< ((8 : Int32) &&& 31)) ||| (e3_r1 &&& (255 : Int32)))), (.int (1 : Int32)), (.ref b2)])) _
    refine XS.i2c X8.here hx rfl (hb hby d1_41) rfl ?_
    show Steps p.tables e below (T8.setTop (mkF m 42 #[.val (.ref r1), .val (.ref b2), .val (.int (1 : Int32))] [(.int ((((e2_r1 &&& (255 : Int32)) <<< ((8 : Int32) &&& 31)) ||| (e3_r1 &&& (255 : Int32))).toUInt32.toUInt16.toUInt32.toInt32)), (.int (1 : Int32)), (.ref b2)])) _
    refine st14 _ ?_
    show Steps p.tables e below (T14.setTop (mkF m 43 #[.val (.ref r1), .val (.ref b2), .val (.int (1 : Int32))] [])) _
    refine XS.iinc X14.here hx rfl (hb hby d1_43) rfl (l' := #[.val (.ref r1), .val (.ref b2), .val (.int (2 : Int32))]) rfl ?_
    show Steps p.tables e below (T14.setTop (mkF m 46 #[.val (.ref r1), .val (.ref b2), .val (.int (2 : Int32))] [])) _
    refine XS.goto X14.here hx rfl (pc0 := 46) (pc' := 9) rfl (hb hby d1_46) (by decide) (by decide) ?_
    show Steps p.tables e below (T14.setTop (mkF m 9 #[.val (.ref r1), .val (.ref b2), .val (.int (2 : Int32))] [])) _
    refine XS.iloadN X14.here hx rfl (hb hby d1_9) rfl ?_
    show Steps p.tables e below (T14.setTop (mkF m 10 #[.val (.ref r1), .val (.ref b2), .val (.int (2 : Int32))] [(.int (2 : Int32))])) _
    refine XS.aloadN X14.here hx rfl (hb hby d1_10) rfl rfl ?_
    show Steps p.tables e below (T14.setTop (mkF m 11 #[.val (.ref r1), .val (.ref b2), .val (.int (2 : Int32))] [(.ref b2), (.int (2 : Int32))])) _
    refine X14.arraylength hx (by rw [e14]; exact Ar16.1) (State.isArrayOf_alike hZ.alike Ar16.2.1) (g := (mkF m 11 #[.val (.ref r1), .val (.ref b2), .val (.int (2 : Int32))] [(.ref b2), (.int (2 : Int32))])) rfl rfl (hb hby d1_11) _ ?_
    rw [len_of Sz16 Nn16]
    show Steps p.tables e below (T14.setTop (mkF m 12 #[.val (.ref r1), .val (.ref b2), .val (.int (2 : Int32))] [(.int (2 : Int32)), (.int (2 : Int32))])) _
    refine XS.icmpYes X14.here hx rfl (pc0 := 12) (pc' := 49) rfl (hb hby d1_12) rfl (flt (by decide : ¬ ((2 : Int32) < (2 : Int32)))).2.1 (by decide) (by decide) ?_
    show Steps p.tables e below (T14.setTop (mkF m 49 #[.val (.ref r1), .val (.ref b2), .val (.int (2 : Int32))] [])) _
    refine XS.aloadN X14.here hx rfl (hb hby d1_49) rfl rfl ?_
    exact k
  obtain ⟨fs, hr, hrun, hended, hW, hsame⟩ := X14.leave (v := some (.ref b2)) (fun h => by rw [Bd.returns] at h; cases h)
  refine ⟨_, _, pre17 _ ?_, hrun, hended, _, _, rfl, ?_, ⟨_, rfl⟩, hW, hsame.mono (by decide) (by decide)⟩
  · show Steps p.tables e below (T14.setTop (mkF m 50 #[.val (.ref r1), .val (.ref b2), .val (.int (2 : Int32))] [(.ref b2)])) _
    exact areturnOut X14 hx rfl Bd.returns rfl (hb hby d1_50) hr
  · show Q1e Z r1 e0_r1 e1_r1 e2_r1 e3_r1 e4_r1 k_r1 h0 n0 _ T14.heap _
    rw [e14]
    exact ⟨b2, k2, rfl, N14, K15, sz_b2, V14⟩
def Q1f (Z : State) (r1 : Addr) (e0_r1 : Int32) (e1_r1 : Int32) (e2_r1 : Int32) (e3_r1 : Int32) (e4_r1 : Int32) (e5_r1 : Int32) (k_r1 : ClassId) (h0 : Heap) (n0 : Nat) (v : Option Value) (h : Heap) (L : List Loc) : Prop := ∃ (b2 : Addr), ∃ (k2 : ClassId), v = some (.ref b2) ∧ Fr n0 L ∧ Keep h0 h [] ∧ h0.size ≤ b2 ∧ Arv Z h b2 k2 .char (3 : Int32) [(.int (nar .char ((((e0_r1 &&& (255 : Int32)) <<< ((8 : Int32) &&& 31)) ||| (e1_r1 &&& (255 : Int32))).toUInt32.toUInt16.toUInt32.toInt32))), (.int (nar .char ((((e2_r1 &&& (255 : Int32)) <<< ((8 : Int32) &&& 31)) ||| (e3_r1 &&& (255 : Int32))).toUInt32.toUInt16.toUInt32.toInt32))), (.int (nar .char ((((e4_r1 &&& (255 : Int32)) <<< ((8 : Int32) &&& 31)) ||| (e5_r1 &&& (255 : Int32))).toUInt32.toUInt16.toUInt32.toInt32)))] (.int (0 : Int32))
theorem ef_1f (m : MethodId) (x0 : Addr) : entryFrame m #[(.ref x0)] 3 = mkF m 0 #[.val (.ref x0), .unset, .unset] [] := by first | (simp [entryFrame, mkF, argsToLocals, Value.category]; done) | rfl
set_option maxRecDepth 65536 in
set_option maxHeartbeats 40000000 in
theorem rm1f (l : Launch) (Z : State) (a0 : Array Value) (hw : ∀ d ∈ tables_1, d.before a0 Z = true) (ws : List Jvm.Cond) (r1 : Addr) (e0_r1 : Int32) (e1_r1 : Int32) (e2_r1 : Int32) (e3_r1 : Int32) (e4_r1 : Int32) (e5_r1 : Int32) (k_r1 : ClassId) (h0 : Heap) (n0 : Nat) (Z0 : n0 ≤ h0.size) (V_r1 : Arv Z h0 r1 k_r1 .byte (6 : Int32) [(.int e0_r1), (.int e1_r1), (.int e2_r1), (.int e3_r1), (.int e4_r1), (.int e5_r1)] (.int (0 : Int32))) :
    MetFree l (⟨"com/example/aschenputtel/aschenputtel/values/UcaWeights", "keyCharacters", "([B)[C"⟩ : MethodName) (head1 (Jvm.Cond.code (⟨"com/example/aschenputtel/aschenputtel/values/UcaWeights", "keyCharacters", "([B)[C"⟩ : MethodName) prog_155_method_25_code 3 (some (.array .char)) :: ws) ({ frames := 0, cells := 1, slots := 3, locals := 0 } : Room)) (fun a U => a = #[(.ref r1)] ∧ Z.Warmed39 U.vm ∧ U.heap = h0) (fun _ _ _ _ _ => True) (fun _ U o U' => ∃ v L, o = .returned v ∧ Q1f Z r1 e0_r1 e1_r1 e2_r1 e3_r1 e4_r1 e5_r1 k_r1 h0 n0 v U'.heap L ∧ FrameEnd U o U' L ({ frames := 0, cells := 1, slots := 3, locals := 0 } : Room).cells ({ frames := 0, cells := 1, slots := 3, locals := 0 } : Room).slots) := by
  refine MetFree.of_bodySF (plainFor_of_name pn_0) hisR ?_
  intro p e s m args below meth c s₁ Bd hml0 hP hK
  obtain ⟨rfl, hZ, hh⟩ := hP
  have hx := Bd.exec
  have hby := Bd.bytes
  have hml : c.maxLocals = 3 := hml0
  have hown : s.vm.findClass "com/example/aschenputtel/aschenputtel/values/UcaWeights" = some m.cls := findClass_of_methodNamed Bd.named
  have hnm := (name_of_methodNamed Bd.named Bd.method).1
  have X0 : Stand p l e ({ frames := 0, cells := 1, slots := 3, locals := 0 } : Room) s m #[(.ref r1)] below meth c s₁ [] 0 0 := Stand.of_body Bd
  have e0 : s₁.heap = h0 := by rw [← hh, Bd.state]; rfl
  have N0 := Fr.nil n0
  have pre0 : ∀ t, Steps p.tables e below (s₁.setTop (mkF m 0 #[.val (.ref r1), .unset, .unset] [])) t → Steps p.tables e below (s₁.setTop (entryFrame m #[(.ref r1)] 3)) t := fun t k => castTop (ef_1f m r1) k
  obtain ⟨cl1, Ar1, -, Sz1, Nn1, -, -⟩ := id V_r1
  obtain ⟨T2, h2, k2, X2, e2, E2, A2, st2⟩ := newP X0 hx hZ (hw _ (List.mem_of_getElem? (i := 6) rfl)) e0 (g := (mkF m 4 #[.val (.ref r1), .unset, .unset] [(.int (3 : Int32))])) rfl (hb hby d1_4) rfl (by decide) (cap := 3) (by decide) (by decide) (by decide) (by decide)
  obtain ⟨b2, g2⟩ : ∃ z, z = h0.size := ⟨_, rfl⟩
  rw [← g2] at A2 st2
  have sz_b2 : h0.size ≤ b2 := Nat.le_trans (Keep.refl h0 []).1 (Nat.le_of_eq g2.symm)
  have K3 : Keep h0 h2 [] := (Keep.refl h0 []).ext E2
  have V2 : Arv Z h2 b2 k2 .char (3 : Int32) [(.int (0 : Int32)), (.int (0 : Int32)), (.int (0 : Int32))] (.int (0 : Int32)) := (Arv.new A2 (by decide)).pad (pad_rep [] (.int (0 : Int32)) 3)
  obtain ⟨cl4, Ar4, -, Sz4, Nn4, -, -⟩ := id V2
  have f5 := (V_r1.ext E2)
  obtain ⟨cl6, Ar6, Cq6, Sz6, Nn6, Hh6, Gg6⟩ := id f5
  have hin6 : ¬ ((0 : Int32) < 0 ∨ cl6.slots.size ≤ ((0 : Int32)).toNatClampNeg) := inb_of Sz6 ⟨by decide, by decide⟩
  have hat6 : cl6.slots[((0 : Int32)).toNatClampNeg]? = some (.int e0_r1) := Hh6.at hin6 rfl
  obtain ⟨cl7, Ar7, Cq7, Sz7, Nn7, Hh7, Gg7⟩ := id f5
  have hin7 : ¬ ((1 : Int32) < 0 ∨ cl7.slots.size ≤ ((1 : Int32)).toNatClampNeg) := inb_of Sz7 ⟨by decide, by decide⟩
  have hat7 : cl7.slots[((1 : Int32)).toNatClampNeg]? = some (.int e1_r1) := Hh7.at hin7 rfl
  obtain ⟨cl8, Ar8, Cq8, Sz8, Nn8, Hh8, Gg8⟩ := id V2
  have hin8 : ¬ ((0 : Int32) < 0 ∨ cl8.slots.size ≤ ((0 : Int32)).toNatClampNeg) := inb_of Sz8 ⟨by decide, by decide⟩
  obtain ⟨T8, h8, X8, e8, W8, st8⟩ := stC X2 hx hZ e2 Ar8 (j := (0 : Int32)) hin8 (g := (mkF m 42 #[.val (.ref r1), .val (.ref b2), .val (.int (0 : Int32))] [(.int ((((e0_r1 &&& (255 : Int32)) <<< ((8 : Int32) &&& 31)) ||| (e1_r1 &&& (255 : Int32))).toUInt32.toUInt16.toUInt32.toInt32)), (.int (0 : Int32)), (.ref b2)])) rfl rfl (hb hby d1_42)
  have V8 : Arv Z h8 b2 k2 .char (3 : Int32) [(.int (nar .char ((((e0_r1 &&& (255 : Int32)) <<< ((8 : Int32) &&& 31)) ||| (e1_r1 &&& (255 : Int32))).toUInt32.toUInt16.toUInt32.toInt32))), (.int (0 : Int32)), (.int (0 : Int32))] (.int (0 : Int32)) := Arv.set Ar8 Cq8 Sz8 Nn8 Hh8 Gg8 (fits_nar_char _) W8 0 rfl (Nat.le_of_ble_eq_true rfl)
  have N8 := Fr.snoc X8 N0 (Nat.le_trans Z0 sz_b2)
  have K9 : Keep h0 h8 [] := K3.wr W8 (Or.inr sz_b2)
  obtain ⟨cl10, Ar10, -, Sz10, Nn10, -, -⟩ := id V8
  have f11 := (f5.other W8 (Nat.ne_of_lt (Nat.lt_of_lt_of_le V_r1.lt (Nat.le_trans (Nat.le_refl _) (Nat.le_of_eq g2.symm)))))
  obtain ⟨cl12, Ar12, Cq12, Sz12, Nn12, Hh12, Gg12⟩ := id f11
  have hin12 : ¬ ((2 : Int32) < 0 ∨ cl12.slots.size ≤ ((2 : Int32)).toNatClampNeg) := inb_of Sz12 ⟨by decide, by decide⟩
  have hat12 : cl12.slots[((2 : Int32)).toNatClampNeg]? = some (.int e2_r1) := Hh12.at hin12 rfl
  obtain ⟨cl13, Ar13, Cq13, Sz13, Nn13, Hh13, Gg13⟩ := id f11
  have hin13 : ¬ ((3 : Int32) < 0 ∨ cl13.slots.size ≤ ((3 : Int32)).toNatClampNeg) := inb_of Sz13 ⟨by decide, by decide⟩
  have hat13 : cl13.slots[((3 : Int32)).toNatClampNeg]? = some (.int e3_r1) := Hh13.at hin13 rfl
  obtain ⟨cl14, Ar14, Cq14, Sz14, Nn14, Hh14, Gg14⟩ := id V8
  have hin14 : ¬ ((1 : Int32) < 0 ∨ cl14.slots.size ≤ ((1 : Int32)).toNatClampNeg) := inb_of Sz14 ⟨by decide, by decide⟩
  obtain ⟨T14, h14, X14, e14, W14, st14⟩ := stC X8 hx hZ e8 Ar14 (j := (1 : Int32)) hin14 (g := (mkF m 42 #[.val (.ref r1), .val (.ref b2), .val (.int (1 : Int32))] [(.int ((((e2_r1 &&& (255 : Int32)) <<< ((8 : Int32) &&& 31)) ||| (e3_r1 &&& (255 : Int32))).toUInt32.toUInt16.toUInt32.toInt32)), (.int (1 : Int32)), (.ref b2)])) rfl rfl (hb hby d1_42)
  have V14 : Arv Z h14 b2 k2 .char (3 : Int32) [(.int (nar .char ((((e0_r1 &&& (255 : Int32)) <<< ((8 : Int32) &&& 31)) ||| (e1_r1 &&& (255 : Int32))).toUInt32.toUInt16.toUInt32.toInt32))), (.int (nar .char ((((e2_r1 &&& (255 : Int32)) <<< ((8 : Int32) &&& 31)) ||| (e3_r1 &&& (255 : Int32))).toUInt32.toUInt16.toUInt32.toInt32))), (.int (0 : Int32))] (.int (0 : Int32)) := Arv.set Ar14 Cq14 Sz14 Nn14 Hh14 Gg14 (fits_nar_char _) W14 1 rfl (Nat.le_of_ble_eq_true rfl)
  have N14 := Fr.snoc X14 N8 (Nat.le_trans Z0 sz_b2)
  have K15 : Keep h0 h14 [] := K9.wr W14 (Or.inr sz_b2)
  obtain ⟨cl16, Ar16, -, Sz16, Nn16, -, -⟩ := id V14
  have f17 := (f11.other W14 (Nat.ne_of_lt (Nat.lt_of_lt_of_le V_r1.lt (Nat.le_trans (Nat.le_refl _) (Nat.le_of_eq g2.symm)))))
  obtain ⟨cl18, Ar18, Cq18, Sz18, Nn18, Hh18, Gg18⟩ := id f17
  have hin18 : ¬ ((4 : Int32) < 0 ∨ cl18.slots.size ≤ ((4 : Int32)).toNatClampNeg) := inb_of Sz18 ⟨by decide, by decide⟩
  have hat18 : cl18.slots[((4 : Int32)).toNatClampNeg]? = some (.int e4_r1) := Hh18.at hin18 rfl
  obtain ⟨cl19, Ar19, Cq19, Sz19, Nn19, Hh19, Gg19⟩ := id f17
  have hin19 : ¬ ((5 : Int32) < 0 ∨ cl19.slots.size ≤ ((5 : Int32)).toNatClampNeg) := inb_of Sz19 ⟨by decide, by decide⟩
  have hat19 : cl19.slots[((5 : Int32)).toNatClampNeg]? = some (.int e5_r1) := Hh19.at hin19 rfl
  obtain ⟨cl20, Ar20, Cq20, Sz20, Nn20, Hh20, Gg20⟩ := id V14
  have hin20 : ¬ ((2 : Int32) < 0 ∨ cl20.slots.size ≤ ((2 : Int32)).toNatClampNeg) := inb_of Sz20 ⟨by decide, by decide⟩
  obtain ⟨T20, h20, X20, e20, W20, st20⟩ := stC X14 hx hZ e14 Ar20 (j := (2 : Int32)) hin20 (g := (mkF m 42 #[.val (.ref r1), .val (.ref b2), .val (.int (2 : Int32))] [(.int ((((e4_r1 &&& (255 : Int32)) <<< ((8 : Int32) &&& 31)) ||| (e5_r1 &&& (255 : Int32))).toUInt32.toUInt16.toUInt32.toInt32)), (.int (2 : Int32)), (.ref b2)])) rfl rfl (hb hby d1_42)
  have V20 : Arv Z h20 b2 k2 .char (3 : Int32) [(.int (nar .char ((((e0_r1 &&& (255 : Int32)) <<< ((8 : Int32) &&& 31)) ||| (e1_r1 &&& (255 : Int32))).toUInt32.toUInt16.toUInt32.toInt32))), (.int (nar .char ((((e2_r1 &&& (255 : Int32)) <<< ((8 : Int32) &&& 31)) ||| (e3_r1 &&& (255 : Int32))).toUInt32.toUInt16.toUInt32.toInt32))), (.int (nar .char ((((e4_r1 &&& (255 : Int32)) <<< ((8 : Int32) &&& 31)) ||| (e5_r1 &&& (255 : Int32))).toUInt32.toUInt16.toUInt32.toInt32)))] (.int (0 : Int32)) := Arv.set Ar20 Cq20 Sz20 Nn20 Hh20 Gg20 (fits_nar_char _) W20 2 rfl (Nat.le_of_ble_eq_true rfl)
  have N20 := Fr.snoc X20 N14 (Nat.le_trans Z0 sz_b2)
  have K21 : Keep h0 h20 [] := K15.wr W20 (Or.inr sz_b2)
  obtain ⟨cl22, Ar22, -, Sz22, Nn22, -, -⟩ := id V20
  have pre23 : ∀ t, Steps p.tables e below (T20.setTop (mkF m 50 #[.val (.ref r1), .val (.ref b2), .val (.int (3 : Int32))] [(.ref b2)])) t → Steps p.tables e below (s₁.setTop (entryFrame m #[(.ref r1)] 3)) t := by
    intro t k
    refine pre0 _ ?_
    show Steps p.tables e below (s₁.setTop (mkF m 0 #[.val (.ref r1), .unset, .unset] [])) _
    refine XS.aloadN X0.here hx rfl (hb hby d1_0) rfl rfl ?_
    show Steps p.tables e below (s₁.setTop (mkF m 1 #[.val (.ref r1), .unset, .unset] [(.ref r1)])) _
    refine X0.arraylength hx (by rw [e0]; exact Ar1.1) (State.isArrayOf_alike hZ.alike Ar1.2.1) (g := (mkF m 1 #[.val (.ref r1), .unset, .unset] [(.ref r1)])) rfl rfl (hb hby d1_1) _ ?_
    rw [len_of Sz1 Nn1]
    show Steps p.tables e below (s₁.setTop (mkF m 2 #[.val (.ref r1), .unset, .unset] [(.int (6 : Int32))])) _
    refine XS.iconst X0.here hx rfl (hb hby d1_2) ?_
    show Steps p.tables e below (s₁.setTop (mkF m 3 #[.val (.ref r1), .unset, .unset] [(.int (2 : Int32)), (.int (6 : Int32))])) _
    refine XS.idiv X0.here hx rfl (hb hby d1_3) rfl (by decide) ?_
    show Steps p.tables e below (s₁.setTop (mkF m 4 #[.val (.ref r1), .unset, .unset] [(.int (3 : Int32))])) _
    refine st2 _ ?_
    show Steps p.tables e below (T2.setTop (mkF m 6 #[.val (.ref r1), .unset, .unset] [(.ref b2)])) _
    refine XS.astoreN X2.here hx rfl (hb hby d1_6) rfl rfl (l' := #[.val (.ref r1), .val (.ref b2), .unset]) rfl ?_
    show Steps p.tables e below (T2.setTop (mkF m 7 #[.val (.ref r1), .val (.ref b2), .unset] [])) _
    refine XS.iconst X2.here hx rfl (hb hby d1_7) ?_
    show Steps p.tables e below (T2.setTop (mkF m 8 #[.val (.ref r1), .val (.ref b2), .unset] [(.int (0 : Int32))])) _
    refine XS.istoreN X2.here hx rfl (hb hby d1_8) rfl (l' := #[.val (.ref r1), .val (.ref b2), .val (.int (0 : Int32))]) rfl ?_
    show Steps p.tables e below (T2.setTop (mkF m 9 #[.val (.ref r1), .val (.ref b2), .val (.int (0 : Int32))] [])) _
    refine XS.iloadN X2.here hx rfl (hb hby d1_9) rfl ?_
    show Steps p.tables e below (T2.setTop (mkF m 10 #[.val (.ref r1), .val (.ref b2), .val (.int (0 : Int32))] [(.int (0 : Int32))])) _
    refine XS.aloadN X2.here hx rfl (hb hby d1_10) rfl rfl ?_
    show Steps p.tables e below (T2.setTop (mkF m 11 #[.val (.ref r1), .val (.ref b2), .val (.int (0 : Int32))] [(.ref b2), (.int (0 : Int32))])) _
    refine X2.arraylength hx (by rw [e2]; exact Ar4.1) (State.isArrayOf_alike hZ.alike Ar4.2.1) (g := (mkF m 11 #[.val (.ref r1), .val (.ref b2), .val (.int (0 : Int32))] [(.ref b2), (.int (0 : Int32))])) rfl rfl (hb hby d1_11) _ ?_
    rw [len_of Sz4 Nn4]
    show Steps p.tables e below (T2.setTop (mkF m 12 #[.val (.ref r1), .val (.ref b2), .val (.int (0 : Int32))] [(.int (3 : Int32)), (.int (0 : Int32))])) _
    refine XS.icmpNo X2.here hx rfl (hb hby d1_12) rfl (tlt (by decide : (0 : Int32) < (3 : Int32))).2.1 ?_
    show Steps p.tables e below (T2.setTop (mkF m 15 #[.val (.ref r1), .val (.ref b2), .val (.int (0 : Int32))] [])) _
    refine XS.aloadN X2.here hx rfl (hb hby d1_15) rfl rfl ?_
    show Steps p.tables e below (T2.setTop (mkF m 16 #[.val (.ref r1), .val (.ref b2), .val (.int (0 : Int32))] [(.ref b2)])) _
    refine XS.iloadN X2.here hx rfl (hb hby d1_16) rfl ?_
    show Steps p.tables e below (T2.setTop (mkF m 17 #[.val (.ref r1), .val (.ref b2), .val (.int (0 : Int32))] [(.int (0 : Int32)), (.ref b2)])) _
    refine XS.aloadN X2.here hx rfl (hb hby d1_17) rfl rfl ?_
    show Steps p.tables e below (T2.setTop (mkF m 18 #[.val (.ref r1), .val (.ref b2), .val (.int (0 : Int32))] [(.ref r1), (.int (0 : Int32)), (.ref b2)])) _
    refine XS.iconst X2.here hx rfl (hb hby d1_18) ?_
    show Steps p.tables e below (T2.setTop (mkF m 19 #[.val (.ref r1), .val (.ref b2), .val (.int (0 : Int32))] [(.int (2 : Int32)), (.ref r1), (.int (0 : Int32)), (.ref b2)])) _
    refine XS.iloadN X2.here hx rfl (hb hby d1_19) rfl ?_
    show Steps p.tables e below (T2.setTop (mkF m 20 #[.val (.ref r1), .val (.ref b2), .val (.int (0 : Int32))] [(.int (0 : Int32)), (.int (2 : Int32)), (.ref r1), (.int (0 : Int32)), (.ref b2)])) _
    refine XS.imul X2.here hx rfl (hb hby d1_20) rfl ?_
    show Steps p.tables e below (T2.setTop (mkF m 21 #[.val (.ref r1), .val (.ref b2), .val (.int (0 : Int32))] [(.int (0 : Int32)), (.ref r1), (.int (0 : Int32)), (.ref b2)])) _
    refine X2.baloadBytes hx (j := (0 : Int32)) (v := (.int e0_r1)) (by rw [e2]; exact Ar6.1) (State.isArrayOf_alike hZ.alike Ar6.2.1) Ar6.2.2 hin6 hat6 (g := (mkF m 21 #[.val (.ref r1), .val (.ref b2), .val (.int (0 : Int32))] [(.int (0 : Int32)), (.ref r1), (.int (0 : Int32)), (.ref b2)])) rfl rfl (hb hby d1_21) _ ?_
    show Steps p.tables e below (T2.setTop (mkF m 22 #[.val (.ref r1), .val (.ref b2), .val (.int (0 : Int32))] [(.int e0_r1), (.int (0 : Int32)), (.ref b2)])) _
    refine XS.sipush X2.here hx rfl (hb hby d1_22) ?_
    show Steps p.tables e below (T2.setTop (mkF m 25 #[.val (.ref r1), .val (.ref b2), .val (.int (0 : Int32))] [(.int (255 : Int32)), (.int e0_r1), (.int (0 : Int32)), (.ref b2)])) _
    refine XS.iand X2.here hx rfl (hb hby d1_25) rfl ?_
    show Steps p.tables e below (T2.setTop (mkF m 26 #[.val (.ref r1), .val (.ref b2), .val (.int (0 : Int32))] [(.int (e0_r1 &&& (255 : Int32))), (.int (0 : Int32)), (.ref b2)])) _
    refine XS.bipush X2.here hx rfl (hb hby d1_26) ?_
    show Steps p.tables e below (T2.setTop (mkF m 28 #[.val (.ref r1), .val (.ref b2), .val (.int (0 : Int32))] [(.int (8 : Int32)), (.int (e0_r1 &&& (255 : Int32))), (.int (0 : Int32)), (.ref b2)])) _
    refine XS.ishl X2.here hx rfl (hb hby d1_28) rfl ?_
    show Steps p.tables e below (T2.setTop (mkF m 29 #[.val (.ref r1), .val (.ref b2), .val (.int (0 : Int32))] [(.int ((e0_r1 &&& (255 : Int32)) <<< ((8 : Int32) &&& 31))), (.int (0 : Int32)), (.ref b2)])) _
    refine XS.aloadN X2.here hx rfl (hb hby d1_29) rfl rfl ?_
    show Steps p.tables e below (T2.setTop (mkF m 30 #[.val (.ref r1), .val (.ref b2), .val (.int (0 : Int32))] [(.ref r1), (.int ((e0_r1 &&& (255 : Int32)) <<< ((8 : Int32) &&& 31))), (.int (0 : Int32)), (.ref b2)])) _
    refine XS.iconst X2.here hx rfl (hb hby d1_30) ?_
    show Steps p.tables e below (T2.setTop (mkF m 31 #[.val (.ref r1), .val (.ref b2), .val (.int (0 : Int32))] [(.int (2 : Int32)), (.ref r1), (.int ((e0_r1 &&& (255 : Int32)) <<< ((8 : Int32) &&& 31))), (.int (0 : Int32)), (.ref b2)])) _
    refine XS.iloadN X2.here hx rfl (hb hby d1_31) rfl ?_
    show Steps p.tables e below (T2.setTop (mkF m 32 #[.val (.ref r1), .val (.ref b2), .val (.int (0 : Int32))] [(.int (0 : Int32)), (.int (2 : Int32)), (.ref r1), (.int ((e0_r1 &&& (255 : Int32)) <<< ((8 : Int32) &&& 31))), (.int (0 : Int32)), (.ref b2)])) _
    refine XS.imul X2.here hx rfl (hb hby d1_32) rfl ?_
    show Steps p.tables e below (T2.setTop (mkF m 33 #[.val (.ref r1), .val (.ref b2), .val (.int (0 : Int32))] [(.int (0 : Int32)), (.ref r1), (.int ((e0_r1 &&& (255 : Int32)) <<< ((8 : Int32) &&& 31))), (.int (0 : Int32)), (.ref b2)])) _
    refine XS.iconst X2.here hx rfl (hb hby d1_33) ?_
    show Steps p.tables e below (T2.setTop (mkF m 34 #[.val (.ref r1), .val (.ref b2), .val (.int (0 : Int32))] [(.int (1 : Int32)), (.int (0 : Int32)), (.ref r1), (.int ((e0_r1 &&& (255 : Int32)) <<< ((8 : Int32) &&& 31))), (.int (0 : Int32)), (.ref b2)])) _
    refine XS.iadd X2.here hx rfl (hb hby d1_34) rfl ?_
    show Steps p.tables e below (T2.setTop (mkF m 35 #[.val (.ref r1), .val (.ref b2), .val (.int (0 : Int32))] [(.int (1 : Int32)), (.ref r1), (.int ((e0_r1 &&& (255 : Int32)) <<< ((8 : Int32) &&& 31))), (.int (0 : Int32)), (.ref b2)])) _
    refine X2.baloadBytes hx (j := (1 : Int32)) (v := (.int e1_r1)) (by rw [e2]; exact Ar7.1) (State.isArrayOf_alike hZ.alike Ar7.2.1) Ar7.2.2 hin7 hat7 (g := (mkF m 35 #[.val (.ref r1), .val (.ref b2), .val (.int (0 : Int32))] [(.int (1 : Int32)), (.ref r1), (.int ((e0_r1 &&& (255 : Int32)) <<< ((8 : Int32) &&& 31))), (.int (0 : Int32)), (.ref b2)])) rfl rfl (hb hby d1_35) _ ?_
    show Steps p.tables e below (T2.setTop (mkF m 36 #[.val (.ref r1), .val (.ref b2), .val (.int (0 : Int32))] [(.int e1_r1), (.int ((e0_r1 &&& (255 : Int32)) <<< ((8 : Int32) &&& 31))), (.int (0 : Int32)), (.ref b2)])) _
    refine XS.sipush X2.here hx rfl (hb hby d1_36) ?_
    show Steps p.tables e below (T2.setTop (mkF m 39 #[.val (.ref r1), .val (.ref b2), .val (.int (0 : Int32))] [(.int (255 : Int32)), (.int e1_r1), (.int ((e0_r1 &&& (255 : Int32)) <<< ((8 : Int32) &&& 31))), (.int (0 : Int32)), (.ref b2)])) _
    refine XS.iand X2.here hx rfl (hb hby d1_39) rfl ?_
    show Steps p.tables e below (T2.setTop (mkF m 40 #[.val (.ref r1), .val (.ref b2), .val (.int (0 : Int32))] [(.int (e1_r1 &&& (255 : Int32))), (.int ((e0_r1 &&& (255 : Int32)) <<< ((8 : Int32) &&& 31))), (.int (0 : Int32)), (.ref b2)])) _
    refine XS.ior X2.here hx rfl (hb hby d1_40) rfl ?_
    show Steps p.tables e below (T2.setTop (mkF m 41 #[.val (.ref r1), .val (.ref b2), .val (.int (0 : Int32))] [(.int (((e0_r1 &&& (255 : Int32)) <<< ((8 : Int32) &&& 31)) ||| (e1_r1 &&& (255 : Int32)))), (.int (0 : Int32)), (.ref b2)])) _
    refine XS.i2c X2.here hx rfl (hb hby d1_41) rfl ?_
    show Steps p.tables e below (T2.setTop (mkF m 42 #[.val (.ref r1), .val (.ref b2), .val (.int (0 : Int32))] [(.int ((((e0_r1 &&& (255 : Int32)) <<< ((8 : Int32) &&& 31)) ||| (e1_r1 &&& (255 : Int32))).toUInt32.toUInt16.toUInt32.toInt32)), (.int (0 : Int32)), (.ref b2)])) _
    refine st8 _ ?_
    show Steps p.tables e below (T8.setTop (mkF m 43 #[.val (.ref r1), .val (.ref b2), .val (.int (0 : Int32))] [])) _
    refine XS.iinc X8.here hx rfl (hb hby d1_43) rfl (l' := #[.val (.ref r1), .val (.ref b2), .val (.int (1 : Int32))]) rfl ?_
    show Steps p.tables e below (T8.setTop (mkF m 46 #[.val (.ref r1), .val (.ref b2), .val (.int (1 : Int32))] [])) _
    refine XS.goto X8.here hx rfl (pc0 := 46) (pc' := 9) rfl (hb hby d1_46) (by decide) (by decide) ?_
    show Steps p.tables e below (T8.setTop (mkF m 9 #[.val (.ref r1), .val (.ref b2), .val (.int (1 : Int32))] [])) _
    refine XS.iloadN X8.here hx rfl (hb hby d1_9) rfl ?_
    show Steps p.tables e below (T8.setTop (mkF m 10 #[.val (.ref r1), .val (.ref b2), .val (.int (1 : Int32))] [(.int (1 : Int32))])) _
    refine XS.aloadN X8.here hx rfl (hb hby d1_10) rfl rfl ?_
    show Steps p.tables e below (T8.setTop (mkF m 11 #[.val (.ref r1), .val (.ref b2), .val (.int (1 : Int32))] [(.ref b2), (.int (1 : Int32))])) _
    refine X8.arraylength hx (by rw [e8]; exact Ar10.1) (State.isArrayOf_alike hZ.alike Ar10.2.1) (g := (mkF m 11 #[.val (.ref r1), .val (.ref b2), .val (.int (1 : Int32))] [(.ref b2), (.int (1 : Int32))])) rfl rfl (hb hby d1_11) _ ?_
    rw [len_of Sz10 Nn10]
    show Steps p.tables e below (T8.setTop (mkF m 12 #[.val (.ref r1), .val (.ref b2), .val (.int (1 : Int32))] [(.int (3 : Int32)), (.int (1 : Int32))])) _
    refine XS.icmpNo X8.here hx rfl (hb hby d1_12) rfl (tlt (by decide : (1 : Int32) < (3 : Int32))).2.1 ?_
    show Steps p.tables e below (T8.setTop (mkF m 15 #[.val (.ref r1), .val (.ref b2), .val (.int (1 : Int32))] [])) _
    refine XS.aloadN X8.here hx rfl (hb hby d1_15) rfl rfl ?_
    show Steps p.tables e below (T8.setTop (mkF m 16 #[.val (.ref r1), .val (.ref b2), .val (.int (1 : Int32))] [(.ref b2)])) _
    refine XS.iloadN X8.here hx rfl (hb hby d1_16) rfl ?_
    show Steps p.tables e below (T8.setTop (mkF m 17 #[.val (.ref r1), .val (.ref b2), .val (.int (1 : Int32))] [(.int (1 : Int32)), (.ref b2)])) _
    refine XS.aloadN X8.here hx rfl (hb hby d1_17) rfl rfl ?_
    show Steps p.tables e below (T8.setTop (mkF m 18 #[.val (.ref r1), .val (.ref b2), .val (.int (1 : Int32))] [(.ref r1), (.int (1 : Int32)), (.ref b2)])) _
    refine XS.iconst X8.here hx rfl (hb hby d1_18) ?_
    show Steps p.tables e below (T8.setTop (mkF m 19 #[.val (.ref r1), .val (.ref b2), .val (.int (1 : Int32))] [(.int (2 : Int32)), (.ref r1), (.int (1 : Int32)), (.ref b2)])) _
    refine XS.iloadN X8.here hx rfl (hb hby d1_19) rfl ?_
    show Steps p.tables e below (T8.setTop (mkF m 20 #[.val (.ref r1), .val (.ref b2), .val (.int (1 : Int32))] [(.int (1 : Int32)), (.int (2 : Int32)), (.ref r1), (.int (1 : Int32)), (.ref b2)])) _
    refine XS.imul X8.here hx rfl (hb hby d1_20) rfl ?_
    show Steps p.tables e below (T8.setTop (mkF m 21 #[.val (.ref r1), .val (.ref b2), .val (.int (1 : Int32))] [(.int (2 : Int32)), (.ref r1), (.int (1 : Int32)), (.ref b2)])) _
    refine X8.baloadBytes hx (j := (2 : Int32)) (v := (.int e2_r1)) (by rw [e8]; exact Ar12.1) (State.isArrayOf_alike hZ.alike Ar12.2.1) Ar12.2.2 hin12 hat12 (g := (mkF m 21 #[.val (.ref r1), .val (.ref b2), .val (.int (1 : Int32))] [(.int (2 : Int32)), (.ref r1), (.int (1 : Int32)), (.ref b2)])) rfl rfl (hb hby d1_21) _ ?_
    show Steps p.tables e below (T8.setTop (mkF m 22 #[.val (.ref r1), .val (.ref b2), .val (.int (1 : Int32))] [(.int e2_r1), (.int (1 : Int32)), (.ref b2)])) _
    refine XS.sipush X8.here hx rfl (hb hby d1_22) ?_
    show Steps p.tables e below (T8.setTop (mkF m 25 #[.val (.ref r1), .val (.ref b2), .val (.int (1 : Int32))] [(.int (255 : Int32)), (.int e2_r1), (.int (1 : Int32)), (.ref b2)])) _
    refine XS.iand X8.here hx rfl (hb hby d1_25) rfl ?_
    show Steps p.tables e below (T8.setTop (mkF m 26 #[.val (.ref r1), .val (.ref b2), .val (.int (1 : Int32))] [(.int (e2_r1 &&& (255 : Int32))), (.int (1 : Int32)), (.ref b2)])) _
    refine XS.bipush X8.here hx rfl (hb hby d1_26) ?_
    show Steps p.tables e below (T8.setTop (mkF m 28 #[.val (.ref r1), .val (.ref b2), .val (.int (1 : Int32))] [(.int (8 : Int32)), (.int (e2_r1 &&& (255 : Int32))), (.int (1 : Int32)), (.ref b2)])) _
    refine XS.ishl X8.here hx rfl (hb hby d1_28) rfl ?_
    show Steps p.tables e below (T8.setTop (mkF m 29 #[.val (.ref r1), .val (.ref b2), .val (.int (1 : Int32))] [(.int ((e2_r1 &&& (255 : Int32)) <<< ((8 : Int32) &&& 31))), (.int (1 : Int32)), (.ref b2)])) _
    refine XS.aloadN X8.here hx rfl (hb hby d1_29) rfl rfl ?_
    show Steps p.tables e below (T8.setTop (mkF m 30 #[.val (.ref r1), .val (.ref b2), .val (.int (1 : Int32))] [(.ref r1), (.int ((e2_r1 &&& (255 : Int32)) <<< ((8 : Int32) &&& 31))), (.int (1 : Int32)), (.ref b2)])) _
    refine XS.iconst X8.here hx rfl (hb hby d1_30) ?_
    show Steps p.tables e below (T8.setTop (mkF m 31 #[.val (.ref r1), .val (.ref b2), .val (.int (1 : Int32))] [(.int (2 : Int32)), (.ref r1), (.int ((e2_r1 &&& (255 : Int32)) <<< ((8 : Int32) &&& 31))), (.int (1 : Int32)), (.ref b2)])) _
    refine XS.iloadN X8.here hx rfl (hb hby d1_31) rfl ?_
    show Steps p.tables e below (T8.setTop (mkF m 32 #[.val (.ref r1), .val (.ref b2), .val (.int (1 : Int32))] [(.int (1 : Int32)), (.int (2 : Int32)), (.ref r1), (.int ((e2_r1 &&& (255 : Int32)) <<< ((8 : Int32) &&& 31))), (.int (1 : Int32)), (.ref b2)])) _
    refine XS.imul X8.here hx rfl (hb hby d1_32) rfl ?_
    show Steps p.tables e below (T8.setTop (mkF m 33 #[.val (.ref r1), .val (.ref b2), .val (.int (1 : Int32))] [(.int (2 : Int32)), (.ref r1), (.int ((e2_r1 &&& (255 : Int32)) <<< ((8 : Int32) &&& 31))), (.int (1 : Int32)), (.ref b2)])) _
    refine XS.iconst X8.here hx rfl (hb hby d1_33) ?_
    show Steps p.tables e below (T8.setTop (mkF m 34 #[.val (.ref r1), .val (.ref b2), .val (.int (1 : Int32))] [(.int (1 : Int32)), (.int (2 : Int32)), (.ref r1), (.int ((e2_r1 &&& (255 : Int32)) <<< ((8 : Int32) &&& 31))), (.int (1 : Int32)), (.ref b2)])) _
    refine XS.iadd X8.here hx rfl (hb hby d1_34) rfl ?_
    show Steps p.tables e below (T8.setTop (mkF m 35 #[.val (.ref r1), .val (.ref b2), .val (.int (1 : Int32))] [(.int (3 : Int32)), (.ref r1), (.int ((e2_r1 &&& (255 : Int32)) <<< ((8 : Int32) &&& 31))), (.int (1 : Int32)), (.ref b2)])) _
    refine X8.baloadBytes hx (j := (3 : Int32)) (v := (.int e3_r1)) (by rw [e8]; exact Ar13.1) (State.isArrayOf_alike hZ.alike Ar13.2.1) Ar13.2.2 hin13 hat13 (g := (mkF m 35 #[.val (.ref r1), .val (.ref b2), .val (.int (1 : Int32))] [(.int (3 : Int32)), (.ref r1), (.int ((e2_r1 &&& (255 : Int32)) <<< ((8 : Int32) &&& 31))), (.int (1 : Int32)), (.ref b2)])) rfl rfl (hb hby d1_35) _ ?_
    show Steps p.tables e below (T8.setTop (mkF m 36 #[.val (.ref r1), .val (.ref b2), .val (.int (1 : Int32))] [(.int e3_r1), (.int ((e2_r1 &&& (255 : Int32)) <<< ((8 : Int32) &&& 31))), (.int (1 : Int32)), (.ref b2)])) _
    refine XS.sipush X8.here hx rfl (hb hby d1_36) ?_
    show Steps p.tables e below (T8.setTop (mkF m 39 #[.val (.ref r1), .val (.ref b2), .val (.int (1 : Int32))] [(.int (255 : Int32)), (.int e3_r1), (.int ((e2_r1 &&& (255 : Int32)) <<< ((8 : Int32) &&& 31))), (.int (1 : Int32)), (.ref b2)])) _
    refine XS.iand X8.here hx rfl (hb hby d1_39) rfl ?_
    show Steps p.tables e below (T8.setTop (mkF m 40 #[.val (.ref r1), .val (.ref b2), .val (.int (1 : Int32))] [(.int (e3_r1 &&& (255 : Int32))), (.int ((e2_r1 &&& (255 : Int32)) <<< ((8 : Int32) &&& 31))), (.int (1 : Int32)), (.ref b2)])) _
    refine XS.ior X8.here hx rfl (hb hby d1_40) rfl ?_
    show Steps p.tables e below (T8.setTop (mkF m 41 #[.val (.ref r1), .val (.ref b2), .val (.int (1 : Int32))] [(.int (((e2_r1 &&& (255 : Int32)) <<< ((8 : Int32) &&& 31)) ||| (e3_r1 &&& (255 : Int32)))), (.int (1 : Int32)), (.ref b2)])) _
    refine XS.i2c X8.here hx rfl (hb hby d1_41) rfl ?_
    show Steps p.tables e below (T8.setTop (mkF m 42 #[.val (.ref r1), .val (.ref b2), .val (.int (1 : Int32))] [(.int ((((e2_r1 &&& (255 : Int32)) <<< ((8 : Int32) &&& 31)) ||| (e3_r1 &&& (255 : Int32))).toUInt32.toUInt16.toUInt32.toInt32)), (.int (1 : Int32)), (.ref b2)])) _
    refine st14 _ ?_
    show Steps p.tables e below (T14.setTop (mkF m 43 #[.val (.ref r1), .val (.ref b2), .val (.int (1 : Int32))] [])) _
    refine XS.iinc X14.here hx rfl (hb hby d1_43) rfl (l' := #[.val (.ref r1), .val (.ref b2), .val (.int (2 : Int32))]) rfl ?_
    show Steps p.tables e below (T14.setTop (mkF m 46 #[.val (.ref r1), .val (.ref b2), .val (.int (2 : Int32))] [])) _
    refine XS.goto X14.here hx rfl (pc0 := 46) (pc' := 9) rfl (hb hby d1_46) (by decide) (by decide) ?_
    show Steps p.tables e below (T14.setTop (mkF m 9 #[.val (.ref r1), .val (.ref b2), .val (.int (2 : Int32))] [])) _
    refine XS.iloadN X14.here hx rfl (hb hby d1_9) rfl ?_
    show Steps p.tables e below (T14.setTop (mkF m 10 #[.val (.ref r1), .val (.ref b2), .val (.int (2 : Int32))] [(.int (2 : Int32))])) _
    refine XS.aloadN X14.here hx rfl (hb hby d1_10) rfl rfl ?_
    show Steps p.tables e below (T14.setTop (mkF m 11 #[.val (.ref r1), .val (.ref b2), .val (.int (2 : Int32))] [(.ref b2), (.int (2 : Int32))])) _
    refine X14.arraylength hx (by rw [e14]; exact Ar16.1) (State.isArrayOf_alike hZ.alike Ar16.2.1) (g := (mkF m 11 #[.val (.ref r1), .val (.ref b2), .val (.int (2 : Int32))] [(.ref b2), (.int (2 : Int32))])) rfl rfl (hb hby d1_11) _ ?_
    rw [len_of Sz16 Nn16]
    show Steps p.tables e below (T14.setTop (mkF m 12 #[.val (.ref r1), .val (.ref b2), .val (.int (2 : Int32))] [(.int (3 : Int32)), (.int (2 : Int32))])) _
    refine XS.icmpNo X14.here hx rfl (hb hby d1_12) rfl (tlt (by decide : (2 : Int32) < (3 : Int32))).2.1 ?_
    show Steps p.tables e below (T14.setTop (mkF m 15 #[.val (.ref r1), .val (.ref b2), .val (.int (2 : Int32))] [])) _
    refine XS.aloadN X14.here hx rfl (hb hby d1_15) rfl rfl ?_
    show Steps p.tables e below (T14.setTop (mkF m 16 #[.val (.ref r1), .val (.ref b2), .val (.int (2 : Int32))] [(.ref b2)])) _
    refine XS.iloadN X14.here hx rfl (hb hby d1_16) rfl ?_
    show Steps p.tables e below (T14.setTop (mkF m 17 #[.val (.ref r1), .val (.ref b2), .val (.int (2 : Int32))] [(.int (2 : Int32)), (.ref b2)])) _
    refine XS.aloadN X14.here hx rfl (hb hby d1_17) rfl rfl ?_
    show Steps p.tables e below (T14.setTop (mkF m 18 #[.val (.ref r1), .val (.ref b2), .val (.int (2 : Int32))] [(.ref r1), (.int (2 : Int32)), (.ref b2)])) _
    refine XS.iconst X14.here hx rfl (hb hby d1_18) ?_
    show Steps p.tables e below (T14.setTop (mkF m 19 #[.val (.ref r1), .val (.ref b2), .val (.int (2 : Int32))] [(.int (2 : Int32)), (.ref r1), (.int (2 : Int32)), (.ref b2)])) _
    refine XS.iloadN X14.here hx rfl (hb hby d1_19) rfl ?_
    show Steps p.tables e below (T14.setTop (mkF m 20 #[.val (.ref r1), .val (.ref b2), .val (.int (2 : Int32))] [(.int (2 : Int32)), (.int (2 : Int32)), (.ref r1), (.int (2 : Int32)), (.ref b2)])) _
    refine XS.imul X14.here hx rfl (hb hby d1_20) rfl ?_
    show Steps p.tables e below (T14.setTop (mkF m 21 #[.val (.ref r1), .val (.ref b2), .val (.int (2 : Int32))] [(.int (4 : Int32)), (.ref r1), (.int (2 : Int32)), (.ref b2)])) _
    refine X14.baloadBytes hx (j := (4 : Int32)) (v := (.int e4_r1)) (by rw [e14]; exact Ar18.1) (State.isArrayOf_alike hZ.alike Ar18.2.1) Ar18.2.2 hin18 hat18 (g := (mkF m 21 #[.val (.ref r1), .val (.ref b2), .val (.int (2 : Int32))] [(.int (4 : Int32)), (.ref r1), (.int (2 : Int32)), (.ref b2)])) rfl rfl (hb hby d1_21) _ ?_
    show Steps p.tables e below (T14.setTop (mkF m 22 #[.val (.ref r1), .val (.ref b2), .val (.int (2 : Int32))] [(.int e4_r1), (.int (2 : Int32)), (.ref b2)])) _
    refine XS.sipush X14.here hx rfl (hb hby d1_22) ?_
    show Steps p.tables e below (T14.setTop (mkF m 25 #[.val (.ref r1), .val (.ref b2), .val (.int (2 : Int32))] [(.int (255 : Int32)), (.int e4_r1), (.int (2 : Int32)), (.ref b2)])) _
    refine XS.iand X14.here hx rfl (hb hby d1_25) rfl ?_
    show Steps p.tables e below (T14.setTop (mkF m 26 #[.val (.ref r1), .val (.ref b2), .val (.int (2 : Int32))] [(.int (e4_r1 &&& (255 : Int32))), (.int (2 : Int32)), (.ref b2)])) _
    refine XS.bipush X14.here hx rfl (hb hby d1_26) ?_
    show Steps p.tables e below (T14.setTop (mkF m 28 #[.val (.ref r1), .val (.ref b2), .val (.int (2 : Int32))] [(.int (8 : Int32)), (.int (e4_r1 &&& (255 : Int32))), (.int (2 : Int32)), (.ref b2)])) _
    refine XS.ishl X14.here hx rfl (hb hby d1_28) rfl ?_
    show Steps p.tables e below (T14.setTop (mkF m 29 #[.val (.ref r1), .val (.ref b2), .val (.int (2 : Int32))] [(.int ((e4_r1 &&& (255 : Int32)) <<< ((8 : Int32) &&& 31))), (.int (2 : Int32)), (.ref b2)])) _
    refine XS.aloadN X14.here hx rfl (hb hby d1_29) rfl rfl ?_
    show Steps p.tables e below (T14.setTop (mkF m 30 #[.val (.ref r1), .val (.ref b2), .val (.int (2 : Int32))] [(.ref r1), (.int ((e4_r1 &&& (255 : Int32)) <<< ((8 : Int32) &&& 31))), (.int (2 : Int32)), (.ref b2)])) _
    refine XS.iconst X14.here hx rfl (hb hby d1_30) ?_
    show Steps p.tables e below (T14.setTop (mkF m 31 #[.val (.ref r1), .val (.ref b2), .val (.int (2 : Int32))] [(.int (2 : Int32)), (.ref r1), (.int ((e4_r1 &&& (255 : Int32)) <<< ((8 : Int32) &&& 31))), (.int (2 : Int32)), (.ref b2)])) _
    refine XS.iloadN X14.here hx rfl (hb hby d1_31) rfl ?_
    show Steps p.tables e below (T14.setTop (mkF m 32 #[.val (.ref r1), .val (.ref b2), .val (.int (2 : Int32))] [(.int (2 : Int32)), (.int (2 : Int32)), (.ref r1), (.int ((e4_r1 &&& (255 : Int32)) <<< ((8 : Int32) &&& 31))), (.int (2 : Int32)), (.ref b2)])) _
    refine XS.imul X14.here hx rfl (hb hby d1_32) rfl ?_
    show Steps p.tables e below (T14.setTop (mkF m 33 #[.val (.ref r1), .val (.ref b2), .val (.int (2 : Int32))] [(.int (4 : Int32)), (.ref r1), (.int ((e4_r1 &&& (255 : Int32)) <<< ((8 : Int32) &&& 31))), (.int (2 : Int32)), (.ref b2)])) _
    refine XS.iconst X14.here hx rfl (hb hby d1_33) ?_
    show Steps p.tables e below (T14.setTop (mkF m 34 #[.val (.ref r1), .val (.ref b2), .val (.int (2 : Int32))] [(.int (1 : Int32)), (.int (4 : Int32)), (.ref r1), (.int ((e4_r1 &&& (255 : Int32)) <<< ((8 : Int32) &&& 31))), (.int (2 : Int32)), (.ref b2)])) _
    refine XS.iadd X14.here hx rfl (hb hby d1_34) rfl ?_
    show Steps p.tables e below (T14.setTop (mkF m 35 #[.val (.ref r1), .val (.ref b2), .val (.int (2 : Int32))] [(.int (5 : Int32)), (.ref r1), (.int ((e4_r1 &&& (255 : Int32)) <<< ((8 : Int32) &&& 31))), (.int (2 : Int32)), (.ref b2)])) _
    refine X14.baloadBytes hx (j := (5 : Int32)) (v := (.int e5_r1)) (by rw [e14]; exact Ar19.1) (State.isArrayOf_alike hZ.alike Ar19.2.1) Ar19.2.2 hin19 hat19 (g := (mkF m 35 #[.val (.ref r1), .val (.ref b2), .val (.int (2 : Int32))] [(.int (5 : Int32)), (.ref r1), (.int ((e4_r1 &&& (255 : Int32)) <<< ((8 : Int32) &&& 31))), (.int (2 : Int32)), (.ref b2)])) rfl rfl (hb hby d1_35) _ ?_
    show Steps p.tables e below (T14.setTop (mkF m 36 #[.val (.ref r1), .val (.ref b2), .val (.int (2 : Int32))] [(.int e5_r1), (.int ((e4_r1 &&& (255 : Int32)) <<< ((8 : Int32) &&& 31))), (.int (2 : Int32)), (.ref b2)])) _
    refine XS.sipush X14.here hx rfl (hb hby d1_36) ?_
    show Steps p.tables e below (T14.setTop (mkF m 39 #[.val (.ref r1), .val (.ref b2), .val (.int (2 : Int32))] [(.int (255 : Int32)), (.int e5_r1), (.int ((e4_r1 &&& (255 : Int32)) <<< ((8 : Int32) &&& 31))), (.int (2 : Int32)), (.ref b2)])) _
    refine XS.iand X14.here hx rfl (hb hby d1_39) rfl ?_
    show Steps p.tables e below (T14.setTop (mkF m 40 #[.val (.ref r1), .val (.ref b2), .val (.int (2 : Int32))] [(.int (e5_r1 &&& (255 : Int32))), (.int ((e4_r1 &&& (255 : Int32)) <<< ((8 : Int32) &&& 31))), (.int (2 : Int32)), (.ref b2)])) _
    refine XS.ior X14.here hx rfl (hb hby d1_40) rfl ?_
    show Steps p.tables e below (T14.setTop (mkF m 41 #[.val (.ref r1), .val (.ref b2), .val (.int (2 : Int32))] [(.int (((e4_r1 &&& (255 : Int32)) <<< ((8 : Int32) &&& 31)) ||| (e5_r1 &&& (255 : Int32)))), (.int (2 : Int32)), (.ref b2)])) _
    refine XS.i2c X14.here hx rfl (hb hby d1_41) rfl ?_
    show Steps p.tables e below (T14.setTop (mkF m 42 #[.val (.ref r1), .val (.ref b2), .val (.int (2 : Int32))] [(.int ((((e4_r1 &&& (255 : Int32)) <<< ((8 : Int32) &&& 31)) ||| (e5_r1 &&& (255 : Int32))).toUInt32.toUInt16.toUInt32.toInt32)), (.int (2 : Int32)), (.ref b2)])) _
    refine st20 _ ?_
    show Steps p.tables e below (T20.setTop (mkF m 43 #[.val (.ref r1), .val (.ref b2), .val (.int (2 : Int32))] [])) _
    refine XS.iinc X20.here hx rfl (hb hby d1_43) rfl (l' := #[.val (.ref r1), .val (.ref b2), .val (.int (3 : Int32))]) rfl ?_
    show Steps p.tables e below (T20.setTop (mkF m 46 #[.val (.ref r1), .val (.ref b2), .val (.int (3 : Int32))] [])) _
    refine XS.goto X20.here hx rfl (pc0 := 46) (pc' := 9) rfl (hb hby d1_46) (by decide) (by decide) ?_
    show Steps p.tables e below (T20.setTop (mkF m 9 #[.val (.ref r1), .val (.ref b2), .val (.int (3 : Int32))] [])) _
    refine XS.iloadN X20.here hx rfl (hb hby d1_9) rfl ?_
    show Steps p.tables e below (T20.setTop (mkF m 10 #[.val (.ref r1), .val (.ref b2), .val (.int (3 : Int32))] [(.int (3 : Int32))])) _
    refine XS.aloadN X20.here hx rfl (hb hby d1_10) rfl rfl ?_
    show Steps p.tables e below (T20.setTop (mkF m 11 #[.val (.ref r1), .val (.ref b2), .val (.int (3 : Int32))] [(.ref b2), (.int (3 : Int32))])) _
    refine X20.arraylength hx (by rw [e20]; exact Ar22.1) (State.isArrayOf_alike hZ.alike Ar22.2.1) (g := (mkF m 11 #[.val (.ref r1), .val (.ref b2), .val (.int (3 : Int32))] [(.ref b2), (.int (3 : Int32))])) rfl rfl (hb hby d1_11) _ ?_
    rw [len_of Sz22 Nn22]
    show Steps p.tables e below (T20.setTop (mkF m 12 #[.val (.ref r1), .val (.ref b2), .val (.int (3 : Int32))] [(.int (3 : Int32)), (.int (3 : Int32))])) _
    refine XS.icmpYes X20.here hx rfl (pc0 := 12) (pc' := 49) rfl (hb hby d1_12) rfl (flt (by decide : ¬ ((3 : Int32) < (3 : Int32)))).2.1 (by decide) (by decide) ?_
    show Steps p.tables e below (T20.setTop (mkF m 49 #[.val (.ref r1), .val (.ref b2), .val (.int (3 : Int32))] [])) _
    refine XS.aloadN X20.here hx rfl (hb hby d1_49) rfl rfl ?_
    exact k
  obtain ⟨fs, hr, hrun, hended, hW, hsame⟩ := X20.leave (v := some (.ref b2)) (fun h => by rw [Bd.returns] at h; cases h)
  refine ⟨_, _, pre23 _ ?_, hrun, hended, _, _, rfl, ?_, ⟨_, rfl⟩, hW, hsame.mono (by decide) (by decide)⟩
  · show Steps p.tables e below (T20.setTop (mkF m 50 #[.val (.ref r1), .val (.ref b2), .val (.int (3 : Int32))] [(.ref b2)])) _
    exact areturnOut X20 hx rfl Bd.returns rfl (hb hby d1_50) hr
  · show Q1f Z r1 e0_r1 e1_r1 e2_r1 e3_r1 e4_r1 e5_r1 k_r1 h0 n0 _ T20.heap _
    rw [e20]
    exact ⟨b2, k2, rfl, N20, K21, sz_b2, V20⟩
def Q1g (Z : State) (r1 : Addr) (e0_r1 : Int32) (e1_r1 : Int32) (e2_r1 : Int32) (e3_r1 : Int32) (e4_r1 : Int32) (e5_r1 : Int32) (e6_r1 : Int32) (k_r1 : ClassId) (h0 : Heap) (n0 : Nat) (v : Option Value) (h : Heap) (L : List Loc) : Prop := ∃ (b2 : Addr), ∃ (k2 : ClassId), v = some (.ref b2) ∧ Fr n0 L ∧ Keep h0 h [] ∧ h0.size ≤ b2 ∧ Arv Z h b2 k2 .char (3 : Int32) [(.int (nar .char ((((e0_r1 &&& (255 : Int32)) <<< ((8 : Int32) &&& 31)) ||| (e1_r1 &&& (255 : Int32))).toUInt32.toUInt16.toUInt32.toInt32))), (.int (nar .char ((((e2_r1 &&& (255 : Int32)) <<< ((8 : Int32) &&& 31)) ||| (e3_r1 &&& (255 : Int32))).toUInt32.toUInt16.toUInt32.toInt32))), (.int (nar .char ((((e4_r1 &&& (255 : Int32)) <<< ((8 : Int32) &&& 31)) ||| (e5_r1 &&& (255 : Int32))).toUInt32.toUInt16.toUInt32.toInt32)))] (.int (0 : Int32))
theorem ef_1g (m : MethodId) (x0 : Addr) : entryFrame m #[(.ref x0)] 3 = mkF m 0 #[.val (.ref x0), .unset, .unset] [] := by first | (simp [entryFrame, mkF, argsToLocals, Value.category]; done) | rfl
set_option maxRecDepth 65536 in
set_option maxHeartbeats 40000000 in
theorem rm1g (l : Launch) (Z : State) (a0 : Array Value) (hw : ∀ d ∈ tables_1, d.before a0 Z = true) (ws : List Jvm.Cond) (r1 : Addr) (e0_r1 : Int32) (e1_r1 : Int32) (e2_r1 : Int32) (e3_r1 : Int32) (e4_r1 : Int32) (e5_r1 : Int32) (e6_r1 : Int32) (k_r1 : ClassId) (h0 : Heap) (n0 : Nat) (Z0 : n0 ≤ h0.size) (V_r1 : Arv Z h0 r1 k_r1 .byte (7 : Int32) [(.int e0_r1), (.int e1_r1), (.int e2_r1), (.int e3_r1), (.int e4_r1), (.int e5_r1), (.int e6_r1)] (.int (0 : Int32))) :
    MetFree l (⟨"com/example/aschenputtel/aschenputtel/values/UcaWeights", "keyCharacters", "([B)[C"⟩ : MethodName) (head1 (Jvm.Cond.code (⟨"com/example/aschenputtel/aschenputtel/values/UcaWeights", "keyCharacters", "([B)[C"⟩ : MethodName) prog_155_method_25_code 3 (some (.array .char)) :: ws) ({ frames := 0, cells := 1, slots := 3, locals := 0 } : Room)) (fun a U => a = #[(.ref r1)] ∧ Z.Warmed39 U.vm ∧ U.heap = h0) (fun _ _ _ _ _ => True) (fun _ U o U' => ∃ v L, o = .returned v ∧ Q1g Z r1 e0_r1 e1_r1 e2_r1 e3_r1 e4_r1 e5_r1 e6_r1 k_r1 h0 n0 v U'.heap L ∧ FrameEnd U o U' L ({ frames := 0, cells := 1, slots := 3, locals := 0 } : Room).cells ({ frames := 0, cells := 1, slots := 3, locals := 0 } : Room).slots) := by
  refine MetFree.of_bodySF (plainFor_of_name pn_0) hisR ?_
  intro p e s m args below meth c s₁ Bd hml0 hP hK
  obtain ⟨rfl, hZ, hh⟩ := hP
  have hx := Bd.exec
  have hby := Bd.bytes
  have hml : c.maxLocals = 3 := hml0
  have hown : s.vm.findClass "com/example/aschenputtel/aschenputtel/values/UcaWeights" = some m.cls := findClass_of_methodNamed Bd.named
  have hnm := (name_of_methodNamed Bd.named Bd.method).1
  have X0 : Stand p l e ({ frames := 0, cells := 1, slots := 3, locals := 0 } : Room) s m #[(.ref r1)] below meth c s₁ [] 0 0 := Stand.of_body Bd
  have e0 : s₁.heap = h0 := by rw [← hh, Bd.state]; rfl
  have N0 := Fr.nil n0
  have pre0 : ∀ t, Steps p.tables e below (s₁.setTop (mkF m 0 #[.val (.ref r1), .unset, .unset] [])) t → Steps p.tables e below (s₁.setTop (entryFrame m #[(.ref r1)] 3)) t := fun t k => castTop (ef_1g m r1) k
  obtain ⟨cl1, Ar1, -, Sz1, Nn1, -, -⟩ := id V_r1
  obtain ⟨T2, h2, k2, X2, e2, E2, A2, st2⟩ := newP X0 hx hZ (hw _ (List.mem_of_getElem? (i := 6) rfl)) e0 (g := (mkF m 4 #[.val (.ref r1), .unset, .unset] [(.int (3 : Int32))])) rfl (hb hby d1_4) rfl (by decide) (cap := 3) (by decide) (by decide) (by decide) (by decide)
  obtain ⟨b2, g2⟩ : ∃ z, z = h0.size := ⟨_, rfl⟩
  rw [← g2] at A2 st2
  have sz_b2 : h0.size ≤ b2 := Nat.le_trans (Keep.refl h0 []).1 (Nat.le_of_eq g2.symm)
  have K3 : Keep h0 h2 [] := (Keep.refl h0 []).ext E2
  have V2 : Arv Z h2 b2 k2 .char (3 : Int32) [(.int (0 : Int32)), (.int (0 : Int32)), (.int (0 : Int32))] (.int (0 : Int32)) := (Arv.new A2 (by decide)).pad (pad_rep [] (.int (0 : Int32)) 3)
  obtain ⟨cl4, Ar4, -, Sz4, Nn4, -, -⟩ := id V2
  have f5 := (V_r1.ext E2)
  obtain ⟨cl6, Ar6, Cq6, Sz6, Nn6, Hh6, Gg6⟩ := id f5
  have hin6 : ¬ ((0 : Int32) < 0 ∨ cl6.slots.size ≤ ((0 : Int32)).toNatClampNeg) := inb_of Sz6 ⟨by decide, by decide⟩
  have hat6 : cl6.slots[((0 : Int32)).toNatClampNeg]? = some (.int e0_r1) := Hh6.at hin6 rfl
  obtain ⟨cl7, Ar7, Cq7, Sz7, Nn7, Hh7, Gg7⟩ := id f5
  have hin7 : ¬ ((1 : Int32) < 0 ∨ cl7.slots.size ≤ ((1 : Int32)).toNatClampNeg) := inb_of Sz7 ⟨by decide, by decide⟩
  have hat7 : cl7.slots[((1 : Int32)).toNatClampNeg]? = some (.int e1_r1) := Hh7.at hin7 rfl
  obtain ⟨cl8, Ar8, Cq8, Sz8, Nn8, Hh8, Gg8⟩ := id V2
  have hin8 : ¬ ((0 : Int32) < 0 ∨ cl8.slots.size ≤ ((0 : Int32)).toNatClampNeg) := inb_of Sz8 ⟨by decide, by decide⟩
  obtain ⟨T8, h8, X8, e8, W8, st8⟩ := stC X2 hx hZ e2 Ar8 (j := (0 : Int32)) hin8 (g := (mkF m 42 #[.val (.ref r1), .val (.ref b2), .val (.int (0 : Int32))] [(.int ((((e0_r1 &&& (255 : Int32)) <<< ((8 : Int32) &&& 31)) ||| (e1_r1 &&& (255 : Int32))).toUInt32.toUInt16.toUInt32.toInt32)), (.int (0 : Int32)), (.ref b2)])) rfl rfl (hb hby d1_42)
  have V8 : Arv Z h8 b2 k2 .char (3 : Int32) [(.int (nar .char ((((e0_r1 &&& (255 : Int32)) <<< ((8 : Int32) &&& 31)) ||| (e1_r1 &&& (255 : Int32))).toUInt32.toUInt16.toUInt32.toInt32))), (.int (0 : Int32)), (.int (0 : Int32))] (.int (0 : Int32)) := Arv.set Ar8 Cq8 Sz8 Nn8 Hh8 Gg8 (fits_nar_char _) W8 0 rfl (Nat.le_of_ble_eq_true rfl)
  have N8 := Fr.snoc X8 N0 (Nat.le_trans Z0 sz_b2)
  have K9 : Keep h0 h8 [] := K3.wr W8 (Or.inr sz_b2)
  obtain ⟨cl10, Ar10, -, Sz10, Nn10, -, -⟩ := id V8
  have f11 := (f5.other W8 (Nat.ne_of_lt (Nat.lt_of_lt_of_le V_r1.lt (Nat.le_trans (Nat.le_refl _) (Nat.le_of_eq g2.symm)))))
  obtain ⟨cl12, Ar12, Cq12, Sz12, Nn12, Hh12, Gg12⟩ := id f11
  have hin12 : ¬ ((2 : Int32) < 0 ∨ cl12.slots.size ≤ ((2 : Int32)).toNatClampNeg) := inb_of Sz12 ⟨by decide, by decide⟩
  have hat12 : cl12.slots[((2 : Int32)).toNatClampNeg]? = some (.int e2_r1) := Hh12.at hin12 rfl
  obtain ⟨cl13, Ar13, Cq13, Sz13, Nn13, Hh13, Gg13⟩ := id f11
  have hin13 : ¬ ((3 : Int32) < 0 ∨ cl13.slots.size ≤ ((3 : Int32)).toNatClampNeg) := inb_of Sz13 ⟨by decide, by decide⟩
  have hat13 : cl13.slots[((3 : Int32)).toNatClampNeg]? = some (.int e3_r1) := Hh13.at hin13 rfl
  obtain ⟨cl14, Ar14, Cq14, Sz14, Nn14, Hh14, Gg14⟩ := id V8
  have hin14 : ¬ ((1 : Int32) < 0 ∨ cl14.slots.size ≤ ((1 : Int32)).toNatClampNeg) := inb_of Sz14 ⟨by decide, by decide⟩
  obtain ⟨T14, h14, X14, e14, W14, st14⟩ := stC X8 hx hZ e8 Ar14 (j := (1 : Int32)) hin14 (g := (mkF m 42 #[.val (.ref r1), .val (.ref b2), .val (.int (1 : Int32))] [(.int ((((e2_r1 &&& (255 : Int32)) <<< ((8 : Int32) &&& 31)) ||| (e3_r1 &&& (255 : Int32))).toUInt32.toUInt16.toUInt32.toInt32)), (.int (1 : Int32)), (.ref b2)])) rfl rfl (hb hby d1_42)
  have V14 : Arv Z h14 b2 k2 .char (3 : Int32) [(.int (nar .char ((((e0_r1 &&& (255 : Int32)) <<< ((8 : Int32) &&& 31)) ||| (e1_r1 &&& (255 : Int32))).toUInt32.toUInt16.toUInt32.toInt32))), (.int (nar .char ((((e2_r1 &&& (255 : Int32)) <<< ((8 : Int32) &&& 31)) ||| (e3_r1 &&& (255 : Int32))).toUInt32.toUInt16.toUInt32.toInt32))), (.int (0 : Int32))] (.int (0 : Int32)) := Arv.set Ar14 Cq14 Sz14 Nn14 Hh14 Gg14 (fits_nar_char _) W14 1 rfl (Nat.le_of_ble_eq_true rfl)
  have N14 := Fr.snoc X14 N8 (Nat.le_trans Z0 sz_b2)
  have K15 : Keep h0 h14 [] := K9.wr W14 (Or.inr sz_b2)
  obtain ⟨cl16, Ar16, -, Sz16, Nn16, -, -⟩ := id V14
  have f17 := (f11.other W14 (Nat.ne_of_lt (Nat.lt_of_lt_of_le V_r1.lt (Nat.le_trans (Nat.le_refl _) (Nat.le_of_eq g2.symm)))))
  obtain ⟨cl18, Ar18, Cq18, Sz18, Nn18, Hh18, Gg18⟩ := id f17
  have hin18 : ¬ ((4 : Int32) < 0 ∨ cl18.slots.size ≤ ((4 : Int32)).toNatClampNeg) := inb_of Sz18 ⟨by decide, by decide⟩
  have hat18 : cl18.slots[((4 : Int32)).toNatClampNeg]? = some (.int e4_r1) := Hh18.at hin18 rfl
  obtain ⟨cl19, Ar19, Cq19, Sz19, Nn19, Hh19, Gg19⟩ := id f17
  have hin19 : ¬ ((5 : Int32) < 0 ∨ cl19.slots.size ≤ ((5 : Int32)).toNatClampNeg) := inb_of Sz19 ⟨by decide, by decide⟩
  have hat19 : cl19.slots[((5 : Int32)).toNatClampNeg]? = some (.int e5_r1) := Hh19.at hin19 rfl
  obtain ⟨cl20, Ar20, Cq20, Sz20, Nn20, Hh20, Gg20⟩ := id V14
  have hin20 : ¬ ((2 : Int32) < 0 ∨ cl20.slots.size ≤ ((2 : Int32)).toNatClampNeg) := inb_of Sz20 ⟨by decide, by decide⟩
  obtain ⟨T20, h20, X20, e20, W20, st20⟩ := stC X14 hx hZ e14 Ar20 (j := (2 : Int32)) hin20 (g := (mkF m 42 #[.val (.ref r1), .val (.ref b2), .val (.int (2 : Int32))] [(.int ((((e4_r1 &&& (255 : Int32)) <<< ((8 : Int32) &&& 31)) ||| (e5_r1 &&& (255 : Int32))).toUInt32.toUInt16.toUInt32.toInt32)), (.int (2 : Int32)), (.ref b2)])) rfl rfl (hb hby d1_42)
  have V20 : Arv Z h20 b2 k2 .char (3 : Int32) [(.int (nar .char ((((e0_r1 &&& (255 : Int32)) <<< ((8 : Int32) &&& 31)) ||| (e1_r1 &&& (255 : Int32))).toUInt32.toUInt16.toUInt32.toInt32))), (.int (nar .char ((((e2_r1 &&& (255 : Int32)) <<< ((8 : Int32) &&& 31)) ||| (e3_r1 &&& (255 : Int32))).toUInt32.toUInt16.toUInt32.toInt32))), (.int (nar .char ((((e4_r1 &&& (255 : Int32)) <<< ((8 : Int32) &&& 31)) ||| (e5_r1 &&& (255 : Int32))).toUInt32.toUInt16.toUInt32.toInt32)))] (.int (0 : Int32)) := Arv.set Ar20 Cq20 Sz20 Nn20 Hh20 Gg20 (fits_nar_char _) W20 2 rfl (Nat.le_of_ble_eq_true rfl)
  have N20 := Fr.snoc X20 N14 (Nat.le_trans Z0 sz_b2)
  have K21 : Keep h0 h20 [] := K15.wr W20 (Or.inr sz_b2)
  obtain ⟨cl22, Ar22, -, Sz22, Nn22, -, -⟩ := id V20
  have pre23 : ∀ t, Steps p.tables e below (T20.setTop (mkF m 50 #[.val (.ref r1), .val (.ref b2), .val (.int (3 : Int32))] [(.ref b2)])) t → Steps p.tables e below (s₁.setTop (entryFrame m #[(.ref r1)] 3)) t := by
    intro t k
    refine pre0 _ ?_
    show Steps p.tables e below (s₁.setTop (mkF m 0 #[.val (.ref r1), .unset, .unset] [])) _
    refine XS.aloadN X0.here hx rfl (hb hby d1_0) rfl rfl ?_
    show Steps p.tables e below (s₁.setTop (mkF m 1 #[.val (.ref r1), .unset, .unset] [(.ref r1)])) _
    refine X0.arraylength hx (by rw [e0]; exact Ar1.1) (State.isArrayOf_alike hZ.alike Ar1.2.1) (g := (mkF m 1 #[.val (.ref r1), .unset, .unset] [(.ref r1)])) rfl rfl (hb hby d1_1) _ ?_
    rw [len_of Sz1 Nn1]
    show Steps p.tables e below (s₁.setTop (mkF m 2 #[.val (.ref r1), .unset, .unset] [(.int (7 : Int32))])) _
    refine XS.iconst X0.here hx rfl (hb hby d1_2) ?_
    show Steps p.tables e below (s₁.setTop (mkF m 3 #[.val (.ref r1), .unset, .unset] [(.int (2 : Int32)), (.int (7 : Int32))])) _
    refine XS.idiv X0.here hx rfl (hb hby d1_3) rfl (by decide) ?_
    show Steps p.tables e below (s₁.setTop (mkF m 4 #[.val (.ref r1), .unset, .unset] [(.int (3 : Int32))])) _
    refine st2 _ ?_
    show Steps p.tables e below (T2.setTop (mkF m 6 #[.val (.ref r1), .unset, .unset] [(.ref b2)])) _
    refine XS.astoreN X2.here hx rfl (hb hby d1_6) rfl rfl (l' := #[.val (.ref r1), .val (.ref b2), .unset]) rfl ?_
    show Steps p.tables e below (T2.setTop (mkF m 7 #[.val (.ref r1), .val (.ref b2), .unset] [])) _
    refine XS.iconst X2.here hx rfl (hb hby d1_7) ?_
    show Steps p.tables e below (T2.setTop (mkF m 8 #[.val (.ref r1), .val (.ref b2), .unset] [(.int (0 : Int32))])) _
    refine XS.istoreN X2.here hx rfl (hb hby d1_8) rfl (l' := #[.val (.ref r1), .val (.ref b2), .val (.int (0 : Int32))]) rfl ?_
    show Steps p.tables e below (T2.setTop (mkF m 9 #[.val (.ref r1), .val (.ref b2), .val (.int (0 : Int32))] [])) _
    refine XS.iloadN X2.here hx rfl (hb hby d1_9) rfl ?_
    show Steps p.tables e below (T2.setTop (mkF m 10 #[.val (.ref r1), .val (.ref b2), .val (.int (0 : Int32))] [(.int (0 : Int32))])) _
    refine XS.aloadN X2.here hx rfl (hb hby d1_10) rfl rfl ?_
    show Steps p.tables e below (T2.setTop (mkF m 11 #[.val (.ref r1), .val (.ref b2), .val (.int (0 : Int32))] [(.ref b2), (.int (0 : Int32))])) _
    refine X2.arraylength hx (by rw [e2]; exact Ar4.1) (State.isArrayOf_alike hZ.alike Ar4.2.1) (g := (mkF m 11 #[.val (.ref r1), .val (.ref b2), .val (.int (0 : Int32))] [(.ref b2), (.int (0 : Int32))])) rfl rfl (hb hby d1_11) _ ?_
    rw [len_of Sz4 Nn4]
    show Steps p.tables e below (T2.setTop (mkF m 12 #[.val (.ref r1), .val (.ref b2), .val (.int (0 : Int32))] [(.int (3 : Int32)), (.int (0 : Int32))])) _
    refine XS.icmpNo X2.here hx rfl (hb hby d1_12) rfl (tlt (by decide : (0 : Int32) < (3 : Int32))).2.1 ?_
    show Steps p.tables e below (T2.setTop (mkF m 15 #[.val (.ref r1), .val (.ref b2), .val (.int (0 : Int32))] [])) _
    refine XS.aloadN X2.here hx rfl (hb hby d1_15) rfl rfl ?_
    show Steps p.tables e below (T2.setTop (mkF m 16 #[.val (.ref r1), .val (.ref b2), .val (.int (0 : Int32))] [(.ref b2)])) _
    refine XS.iloadN X2.here hx rfl (hb hby d1_16) rfl ?_
    show Steps p.tables e below (T2.setTop (mkF m 17 #[.val (.ref r1), .val (.ref b2), .val (.int (0 : Int32))] [(.int (0 : Int32)), (.ref b2)])) _
    refine XS.aloadN X2.here hx rfl (hb hby d1_17) rfl rfl ?_
    show Steps p.tables e below (T2.setTop (mkF m 18 #[.val (.ref r1), .val (.ref b2), .val (.int (0 : Int32))] [(.ref r1), (.int (0 : Int32)), (.ref b2)])) _
    refine XS.iconst X2.here hx rfl (hb hby d1_18) ?_
    show Steps p.tables e below (T2.setTop (mkF m 19 #[.val (.ref r1), .val (.ref b2), .val (.int (0 : Int32))] [(.int (2 : Int32)), (.ref r1), (.int (0 : Int32)), (.ref b2)])) _
    refine XS.iloadN X2.here hx rfl (hb hby d1_19) rfl ?_
    show Steps p.tables e below (T2.setTop (mkF m 20 #[.val (.ref r1), .val (.ref b2), .val (.int (0 : Int32))] [(.int (0 : Int32)), (.int (2 : Int32)), (.ref r1), (.int (0 : Int32)), (.ref b2)])) _
    refine XS.imul X2.here hx rfl (hb hby d1_20) rfl ?_
    show Steps p.tables e below (T2.setTop (mkF m 21 #[.val (.ref r1), .val (.ref b2), .val (.int (0 : Int32))] [(.int (0 : Int32)), (.ref r1), (.int (0 : Int32)), (.ref b2)])) _
    refine X2.baloadBytes hx (j := (0 : Int32)) (v := (.int e0_r1)) (by rw [e2]; exact Ar6.1) (State.isArrayOf_alike hZ.alike Ar6.2.1) Ar6.2.2 hin6 hat6 (g := (mkF m 21 #[.val (.ref r1), .val (.ref b2), .val (.int (0 : Int32))] [(.int (0 : Int32)), (.ref r1), (.int (0 : Int32)), (.ref b2)])) rfl rfl (hb hby d1_21) _ ?_
    show Steps p.tables e below (T2.setTop (mkF m 22 #[.val (.ref r1), .val (.ref b2), .val (.int (0 : Int32))] [(.int e0_r1), (.int (0 : Int32)), (.ref b2)])) _
    refine XS.sipush X2.here hx rfl (hb hby d1_22) ?_
    show Steps p.tables e below (T2.setTop (mkF m 25 #[.val (.ref r1), .val (.ref b2), .val (.int (0 : Int32))] [(.int (255 : Int32)), (.int e0_r1), (.int (0 : Int32)), (.ref b2)])) _
    refine XS.iand X2.here hx rfl (hb hby d1_25) rfl ?_
    show Steps p.tables e below (T2.setTop (mkF m 26 #[.val (.ref r1), .val (.ref b2), .val (.int (0 : Int32))] [(.int (e0_r1 &&& (255 : Int32))), (.int (0 : Int32)), (.ref b2)])) _
    refine XS.bipush X2.here hx rfl (hb hby d1_26) ?_
    show Steps p.tables e below (T2.setTop (mkF m 28 #[.val (.ref r1), .val (.ref b2), .val (.int (0 : Int32))] [(.int (8 : Int32)), (.int (e0_r1 &&& (255 : Int32))), (.int (0 : Int32)), (.ref b2)])) _
    refine XS.ishl X2.here hx rfl (hb hby d1_28) rfl ?_
    show Steps p.tables e below (T2.setTop (mkF m 29 #[.val (.ref r1), .val (.ref b2), .val (.int (0 : Int32))] [(.int ((e0_r1 &&& (255 : Int32)) <<< ((8 : Int32) &&& 31))), (.int (0 : Int32)), (.ref b2)])) _
    refine XS.aloadN X2.here hx rfl (hb hby d1_29) rfl rfl ?_
    show Steps p.tables e below (T2.setTop (mkF m 30 #[.val (.ref r1), .val (.ref b2), .val (.int (0 : Int32))] [(.ref r1), (.int ((e0_r1 &&& (255 : Int32)) <<< ((8 : Int32) &&& 31))), (.int (0 : Int32)), (.ref b2)])) _
    refine XS.iconst X2.here hx rfl (hb hby d1_30) ?_
    show Steps p.tables e below (T2.setTop (mkF m 31 #[.val (.ref r1), .val (.ref b2), .val (.int (0 : Int32))] [(.int (2 : Int32)), (.ref r1), (.int ((e0_r1 &&& (255 : Int32)) <<< ((8 : Int32) &&& 31))), (.int (0 : Int32)), (.ref b2)])) _
    refine XS.iloadN X2.here hx rfl (hb hby d1_31) rfl ?_
    show Steps p.tables e below (T2.setTop (mkF m 32 #[.val (.ref r1), .val (.ref b2), .val (.int (0 : Int32))] [(.int (0 : Int32)), (.int (2 : Int32)), (.ref r1), (.int ((e0_r1 &&& (255 : Int32)) <<< ((8 : Int32) &&& 31))), (.int (0 : Int32)), (.ref b2)])) _
    refine XS.imul X2.here hx rfl (hb hby d1_32) rfl ?_
    show Steps p.tables e below (T2.setTop (mkF m 33 #[.val (.ref r1), .val (.ref b2), .val (.int (0 : Int32))] [(.int (0 : Int32)), (.ref r1), (.int ((e0_r1 &&& (255 : Int32)) <<< ((8 : Int32) &&& 31))), (.int (0 : Int32)), (.ref b2)])) _
    refine XS.iconst X2.here hx rfl (hb hby d1_33) ?_
    show Steps p.tables e below (T2.setTop (mkF m 34 #[.val (.ref r1), .val (.ref b2), .val (.int (0 : Int32))] [(.int (1 : Int32)), (.int (0 : Int32)), (.ref r1), (.int ((e0_r1 &&& (255 : Int32)) <<< ((8 : Int32) &&& 31))), (.int (0 : Int32)), (.ref b2)])) _
    refine XS.iadd X2.here hx rfl (hb hby d1_34) rfl ?_
    show Steps p.tables e below (T2.setTop (mkF m 35 #[.val (.ref r1), .val (.ref b2), .val (.int (0 : Int32))] [(.int (1 : Int32)), (.ref r1), (.int ((e0_r1 &&& (255 : Int32)) <<< ((8 : Int32) &&& 31))), (.int (0 : Int32)), (.ref b2)])) _
    refine X2.baloadBytes hx (j := (1 : Int32)) (v := (.int e1_r1)) (by rw [e2]; exact Ar7.1) (State.isArrayOf_alike hZ.alike Ar7.2.1) Ar7.2.2 hin7 hat7 (g := (mkF m 35 #[.val (.ref r1), .val (.ref b2), .val (.int (0 : Int32))] [(.int (1 : Int32)), (.ref r1), (.int ((e0_r1 &&& (255 : Int32)) <<< ((8 : Int32) &&& 31))), (.int (0 : Int32)), (.ref b2)])) rfl rfl (hb hby d1_35) _ ?_
    show Steps p.tables e below (T2.setTop (mkF m 36 #[.val (.ref r1), .val (.ref b2), .val (.int (0 : Int32))] [(.int e1_r1), (.int ((e0_r1 &&& (255 : Int32)) <<< ((8 : Int32) &&& 31))), (.int (0 : Int32)), (.ref b2)])) _
    refine XS.sipush X2.here hx rfl (hb hby d1_36) ?_
    show Steps p.tables e below (T2.setTop (mkF m 39 #[.val (.ref r1), .val (.ref b2), .val (.int (0 : Int32))] [(.int (255 : Int32)), (.int e1_r1), (.int ((e0_r1 &&& (255 : Int32)) <<< ((8 : Int32) &&& 31))), (.int (0 : Int32)), (.ref b2)])) _
    refine XS.iand X2.here hx rfl (hb hby d1_39) rfl ?_
    show Steps p.tables e below (T2.setTop (mkF m 40 #[.val (.ref r1), .val (.ref b2), .val (.int (0 : Int32))] [(.int (e1_r1 &&& (255 : Int32))), (.int ((e0_r1 &&& (255 : Int32)) <<< ((8 : Int32) &&& 31))), (.int (0 : Int32)), (.ref b2)])) _
    refine XS.ior X2.here hx rfl (hb hby d1_40) rfl ?_
    show Steps p.tables e below (T2.setTop (mkF m 41 #[.val (.ref r1), .val (.ref b2), .val (.int (0 : Int32))] [(.int (((e0_r1 &&& (255 : Int32)) <<< ((8 : Int32) &&& 31)) ||| (e1_r1 &&& (255 : Int32)))), (.int (0 : Int32)), (.ref b2)])) _
    refine XS.i2c X2.here hx rfl (hb hby d1_41) rfl ?_
    show Steps p.tables e below (T2.setTop (mkF m 42 #[.val (.ref r1), .val (.ref b2), .val (.int (0 : Int32))] [(.int ((((e0_r1 &&& (255 : Int32)) <<< ((8 : Int32) &&& 31)) ||| (e1_r1 &&& (255 : Int32))).toUInt32.toUInt16.toUInt32.toInt32)), (.int (0 : Int32)), (.ref b2)])) _
    refine st8 _ ?_
    show Steps p.tables e below (T8.setTop (mkF m 43 #[.val (.ref r1), .val (.ref b2), .val (.int (0 : Int32))] [])) _
    refine XS.iinc X8.here hx rfl (hb hby d1_43) rfl (l' := #[.val (.ref r1), .val (.ref b2), .val (.int (1 : Int32))]) rfl ?_
    show Steps p.tables e below (T8.setTop (mkF m 46 #[.val (.ref r1), .val (.ref b2), .val (.int (1 : Int32))] [])) _
    refine XS.goto X8.here hx rfl (pc0 := 46) (pc' := 9) rfl (hb hby d1_46) (by decide) (by decide) ?_
    show Steps p.tables e below (T8.setTop (mkF m 9 #[.val (.ref r1), .val (.ref b2), .val (.int (1 : Int32))] [])) _
    refine XS.iloadN X8.here hx rfl (hb hby d1_9) rfl ?_
    show Steps p.tables e below (T8.setTop (mkF m 10 #[.val (.ref r1), .val (.ref b2), .val (.int (1 : Int32))] [(.int (1 : Int32))])) _
    refine XS.aloadN X8.here hx rfl (hb hby d1_10) rfl rfl ?_
    show Steps p.tables e below (T8.setTop (mkF m 11 #[.val (.ref r1), .val (.ref b2), .val (.int (1 : Int32))] [(.ref b2), (.int (1 : Int32))])) _
    refine X8.arraylength hx (by rw [e8]; exact Ar10.1) (State.isArrayOf_alike hZ.alike Ar10.2.1) (g := (mkF m 11 #[.val (.ref r1), .val (.ref b2), .val (.int (1 : Int32))] [(.ref b2), (.int (1 : Int32))])) rfl rfl (hb hby d1_11) _ ?_
    rw [len_of Sz10 Nn10]
    show Steps p.tables e below (T8.setTop (mkF m 12 #[.val (.ref r1), .val (.ref b2), .val (.int (1 : Int32))] [(.int (3 : Int32)), (.int (1 : Int32))])) _
    refine XS.icmpNo X8.here hx rfl (hb hby d1_12) rfl (tlt (by decide : (1 : Int32) < (3 : Int32))).2.1 ?_
    show Steps p.tables e below (T8.setTop (mkF m 15 #[.val (.ref r1), .val (.ref b2), .val (.int (1 : Int32))] [])) _
    refine XS.aloadN X8.here hx rfl (hb hby d1_15) rfl rfl ?_
    show Steps p.tables e below (T8.setTop (mkF m 16 #[.val (.ref r1), .val (.ref b2), .val (.int (1 : Int32))] [(.ref b2)])) _
    refine XS.iloadN X8.here hx rfl (hb hby d1_16) rfl ?_
    show Steps p.tables e below (T8.setTop (mkF m 17 #[.val (.ref r1), .val (.ref b2), .val (.int (1 : Int32))] [(.int (1 : Int32)), (.ref b2)])) _
    refine XS.aloadN X8.here hx rfl (hb hby d1_17) rfl rfl ?_
    show Steps p.tables e below (T8.setTop (mkF m 18 #[.val (.ref r1), .val (.ref b2), .val (.int (1 : Int32))] [(.ref r1), (.int (1 : Int32)), (.ref b2)])) _
    refine XS.iconst X8.here hx rfl (hb hby d1_18) ?_
    show Steps p.tables e below (T8.setTop (mkF m 19 #[.val (.ref r1), .val (.ref b2), .val (.int (1 : Int32))] [(.int (2 : Int32)), (.ref r1), (.int (1 : Int32)), (.ref b2)])) _
    refine XS.iloadN X8.here hx rfl (hb hby d1_19) rfl ?_
    show Steps p.tables e below (T8.setTop (mkF m 20 #[.val (.ref r1), .val (.ref b2), .val (.int (1 : Int32))] [(.int (1 : Int32)), (.int (2 : Int32)), (.ref r1), (.int (1 : Int32)), (.ref b2)])) _
    refine XS.imul X8.here hx rfl (hb hby d1_20) rfl ?_
    show Steps p.tables e below (T8.setTop (mkF m 21 #[.val (.ref r1), .val (.ref b2), .val (.int (1 : Int32))] [(.int (2 : Int32)), (.ref r1), (.int (1 : Int32)), (.ref b2)])) _
    refine X8.baloadBytes hx (j := (2 : Int32)) (v := (.int e2_r1)) (by rw [e8]; exact Ar12.1) (State.isArrayOf_alike hZ.alike Ar12.2.1) Ar12.2.2 hin12 hat12 (g := (mkF m 21 #[.val (.ref r1), .val (.ref b2), .val (.int (1 : Int32))] [(.int (2 : Int32)), (.ref r1), (.int (1 : Int32)), (.ref b2)])) rfl rfl (hb hby d1_21) _ ?_
    show Steps p.tables e below (T8.setTop (mkF m 22 #[.val (.ref r1), .val (.ref b2), .val (.int (1 : Int32))] [(.int e2_r1), (.int (1 : Int32)), (.ref b2)])) _
    refine XS.sipush X8.here hx rfl (hb hby d1_22) ?_
    show Steps p.tables e below (T8.setTop (mkF m 25 #[.val (.ref r1), .val (.ref b2), .val (.int (1 : Int32))] [(.int (255 : Int32)), (.int e2_r1), (.int (1 : Int32)), (.ref b2)])) _
    refine XS.iand X8.here hx rfl (hb hby d1_25) rfl ?_
    show Steps p.tables e below (T8.setTop (mkF m 26 #[.val (.ref r1), .val (.ref b2), .val (.int (1 : Int32))] [(.int (e2_r1 &&& (255 : Int32))), (.int (1 : Int32)), (.ref b2)])) _
    refine XS.bipush X8.here hx rfl (hb hby d1_26) ?_
    show Steps p.tables e below (T8.setTop (mkF m 28 #[.val (.ref r1), .val (.ref b2), .val (.int (1 : Int32))] [(.int (8 : Int32)), (.int (e2_r1 &&& (255 : Int32))), (.int (1 : Int32)), (.ref b2)])) _
    refine XS.ishl X8.here hx rfl (hb hby d1_28) rfl ?_
    show Steps p.tables e below (T8.setTop (mkF m 29 #[.val (.ref r1), .val (.ref b2), .val (.int (1 : Int32))] [(.int ((e2_r1 &&& (255 : Int32)) <<< ((8 : Int32) &&& 31))), (.int (1 : Int32)), (.ref b2)])) _
    refine XS.aloadN X8.here hx rfl (hb hby d1_29) rfl rfl ?_
    show Steps p.tables e below (T8.setTop (mkF m 30 #[.val (.ref r1), .val (.ref b2), .val (.int (1 : Int32))] [(.ref r1), (.int ((e2_r1 &&& (255 : Int32)) <<< ((8 : Int32) &&& 31))), (.int (1 : Int32)), (.ref b2)])) _
    refine XS.iconst X8.here hx rfl (hb hby d1_30) ?_
    show Steps p.tables e below (T8.setTop (mkF m 31 #[.val (.ref r1), .val (.ref b2), .val (.int (1 : Int32))] [(.int (2 : Int32)), (.ref r1), (.int ((e2_r1 &&& (255 : Int32)) <<< ((8 : Int32) &&& 31))), (.int (1 : Int32)), (.ref b2)])) _
    refine XS.iloadN X8.here hx rfl (hb hby d1_31) rfl ?_
    show Steps p.tables e below (T8.setTop (mkF m 32 #[.val (.ref r1), .val (.ref b2), .val (.int (1 : Int32))] [(.int (1 : Int32)), (.int (2 : Int32)), (.ref r1), (.int ((e2_r1 &&& (255 : Int32)) <<< ((8 : Int32) &&& 31))), (.int (1 : Int32)), (.ref b2)])) _
    refine XS.imul X8.here hx rfl (hb hby d1_32) rfl ?_
    show Steps p.tables e below (T8.setTop (mkF m 33 #[.val (.ref r1), .val (.ref b2), .val (.int (1 : Int32))] [(.int (2 : Int32)), (.ref r1), (.int ((e2_r1 &&& (255 : Int32)) <<< ((8 : Int32) &&& 31))), (.int (1 : Int32)), (.ref b2)])) _
    refine XS.iconst X8.here hx rfl (hb hby d1_33) ?_
    show Steps p.tables e below (T8.setTop (mkF m 34 #[.val (.ref r1), .val (.ref b2), .val (.int (1 : Int32))] [(.int (1 : Int32)), (.int (2 : Int32)), (.ref r1), (.int ((e2_r1 &&& (255 : Int32)) <<< ((8 : Int32) &&& 31))), (.int (1 : Int32)), (.ref b2)])) _
    refine XS.iadd X8.here hx rfl (hb hby d1_34) rfl ?_
    show Steps p.tables e below (T8.setTop (mkF m 35 #[.val (.ref r1), .val (.ref b2), .val (.int (1 : Int32))] [(.int (3 : Int32)), (.ref r1), (.int ((e2_r1 &&& (255 : Int32)) <<< ((8 : Int32) &&& 31))), (.int (1 : Int32)), (.ref b2)])) _
    refine X8.baloadBytes hx (j := (3 : Int32)) (v := (.int e3_r1)) (by rw [e8]; exact Ar13.1) (State.isArrayOf_alike hZ.alike Ar13.2.1) Ar13.2.2 hin13 hat13 (g := (mkF m 35 #[.val (.ref r1), .val (.ref b2), .val (.int (1 : Int32))] [(.int (3 : Int32)), (.ref r1), (.int ((e2_r1 &&& (255 : Int32)) <<< ((8 : Int32) &&& 31))), (.int (1 : Int32)), (.ref b2)])) rfl rfl (hb hby d1_35) _ ?_
    show Steps p.tables e below (T8.setTop (mkF m 36 #[.val (.ref r1), .val (.ref b2), .val (.int (1 : Int32))] [(.int e3_r1), (.int ((e2_r1 &&& (255 : Int32)) <<< ((8 : Int32) &&& 31))), (.int (1 : Int32)), (.ref b2)])) _
    refine XS.sipush X8.here hx rfl (hb hby d1_36) ?_
    show Steps p.tables e below (T8.setTop (mkF m 39 #[.val (.ref r1), .val (.ref b2), .val (.int (1 : Int32))] [(.int (255 : Int32)), (.int e3_r1), (.int ((e2_r1 &&& (255 : Int32)) <<< ((8 : Int32) &&& 31))), (.int (1 : Int32)), (.ref b2)])) _
    refine XS.iand X8.here hx rfl (hb hby d1_39) rfl ?_
    show Steps p.tables e below (T8.setTop (mkF m 40 #[.val (.ref r1), .val (.ref b2), .val (.int (1 : Int32))] [(.int (e3_r1 &&& (255 : Int32))), (.int ((e2_r1 &&& (255 : Int32)) <<< ((8 : Int32) &&& 31))), (.int (1 : Int32)), (.ref b2)])) _
    refine XS.ior X8.here hx rfl (hb hby d1_40) rfl ?_
    show Steps p.tables e below (T8.setTop (mkF m 41 #[.val (.ref r1), .val (.ref b2), .val (.int (1 : Int32))] [(.int (((e2_r1 &&& (255 : Int32)) <<< ((8 : Int32) &&& 31)) ||| (e3_r1 &&& (255 : Int32)))), (.int (1 : Int32)), (.ref b2)])) _
    refine XS.i2c X8.here hx rfl (hb hby d1_41) rfl ?_
    show Steps p.tables e below (T8.setTop (mkF m 42 #[.val (.ref r1), .val (.ref b2), .val (.int (1 : Int32))] [(.int ((((e2_r1 &&& (255 : Int32)) <<< ((8 : Int32) &&& 31)) ||| (e3_r1 &&& (255 : Int32))).toUInt32.toUInt16.toUInt32.toInt32)), (.int (1 : Int32)), (.ref b2)])) _
    refine st14 _ ?_
    show Steps p.tables e below (T14.setTop (mkF m 43 #[.val (.ref r1), .val (.ref b2), .val (.int (1 : Int32))] [])) _
    refine XS.iinc X14.here hx rfl (hb hby d1_43) rfl (l' := #[.val (.ref r1), .val (.ref b2), .val (.int (2 : Int32))]) rfl ?_
    show Steps p.tables e below (T14.setTop (mkF m 46 #[.val (.ref r1), .val (.ref b2), .val (.int (2 : Int32))] [])) _
    refine XS.goto X14.here hx rfl (pc0 := 46) (pc' := 9) rfl (hb hby d1_46) (by decide) (by decide) ?_
    show Steps p.tables e below (T14.setTop (mkF m 9 #[.val (.ref r1), .val (.ref b2), .val (.int (2 : Int32))] [])) _
    refine XS.iloadN X14.here hx rfl (hb hby d1_9) rfl ?_
    show Steps p.tables e below (T14.setTop (mkF m 10 #[.val (.ref r1), .val (.ref b2), .val (.int (2 : Int32))] [(.int (2 : Int32))])) _
    refine XS.aloadN X14.here hx rfl (hb hby d1_10) rfl rfl ?_
    show Steps p.tables e below (T14.setTop (mkF m 11 #[.val (.ref r1), .val (.ref b2), .val (.int (2 : Int32))] [(.ref b2), (.int (2 : Int32))])) _
    refine X14.arraylength hx (by rw [e14]; exact Ar16.1) (State.isArrayOf_alike hZ.alike Ar16.2.1) (g := (mkF m 11 #[.val (.ref r1), .val (.ref b2), .val (.int (2 : Int32))] [(.ref b2), (.int (2 : Int32))])) rfl rfl (hb hby d1_11) _ ?_
    rw [len_of Sz16 Nn16]
    show Steps p.tables e below (T14.setTop (mkF m 12 #[.val (.ref r1), .val (.ref b2), .val (.int (2 : Int32))] [(.int (3 : Int32)), (.int (2 : Int32))])) _
    refine XS.icmpNo X14.here hx rfl (hb hby d1_12) rfl (tlt (by decide : (2 : Int32) < (3 : Int32))).2.1 ?_
    show Steps p.tables e below (T14.setTop (mkF m 15 #[.val (.ref r1), .val (.ref b2), .val (.int (2 : Int32))] [])) _
    refine XS.aloadN X14.here hx rfl (hb hby d1_15) rfl rfl ?_
    show Steps p.tables e below (T14.setTop (mkF m 16 #[.val (.ref r1), .val (.ref b2), .val (.int (2 : Int32))] [(.ref b2)])) _
    refine XS.iloadN X14.here hx rfl (hb hby d1_16) rfl ?_
    show Steps p.tables e below (T14.setTop (mkF m 17 #[.val (.ref r1), .val (.ref b2), .val (.int (2 : Int32))] [(.int (2 : Int32)), (.ref b2)])) _
    refine XS.aloadN X14.here hx rfl (hb hby d1_17) rfl rfl ?_
    show Steps p.tables e below (T14.setTop (mkF m 18 #[.val (.ref r1), .val (.ref b2), .val (.int (2 : Int32))] [(.ref r1), (.int (2 : Int32)), (.ref b2)])) _
    refine XS.iconst X14.here hx rfl (hb hby d1_18) ?_
    show Steps p.tables e below (T14.setTop (mkF m 19 #[.val (.ref r1), .val (.ref b2), .val (.int (2 : Int32))] [(.int (2 : Int32)), (.ref r1), (.int (2 : Int32)), (.ref b2)])) _
    refine XS.iloadN X14.here hx rfl (hb hby d1_19) rfl ?_
    show Steps p.tables e below (T14.setTop (mkF m 20 #[.val (.ref r1), .val (.ref b2), .val (.int (2 : Int32))] [(.int (2 : Int32)), (.int (2 : Int32)), (.ref r1), (.int (2 : Int32)), (.ref b2)])) _
    refine XS.imul X14.here hx rfl (hb hby d1_20) rfl ?_
    show Steps p.tables e below (T14.setTop (mkF m 21 #[.val (.ref r1), .val (.ref b2), .val (.int (2 : Int32))] [(.int (4 : Int32)), (.ref r1), (.int (2 : Int32)), (.ref b2)])) _
    refine X14.baloadBytes hx (j := (4 : Int32)) (v := (.int e4_r1)) (by rw [e14]; exact Ar18.1) (State.isArrayOf_alike hZ.alike Ar18.2.1) Ar18.2.2 hin18 hat18 (g := (mkF m 21 #[.val (.ref r1), .val (.ref b2), .val (.int (2 : Int32))] [(.int (4 : Int32)), (.ref r1), (.int (2 : Int32)), (.ref b2)])) rfl rfl (hb hby d1_21) _ ?_
    show Steps p.tables e below (T14.setTop (mkF m 22 #[.val (.ref r1), .val (.ref b2), .val (.int (2 : Int32))] [(.int e4_r1), (.int (2 : Int32)), (.ref b2)])) _
    refine XS.sipush X14.here hx rfl (hb hby d1_22) ?_
    show Steps p.tables e below (T14.setTop (mkF m 25 #[.val (.ref r1), .val (.ref b2), .val (.int (2 : Int32))] [(.int (255 : Int32)), (.int e4_r1), (.int (2 : Int32)), (.ref b2)])) _
    refine XS.iand X14.here hx rfl (hb hby d1_25) rfl ?_
    show Steps p.tables e below (T14.setTop (mkF m 26 #[.val (.ref r1), .val (.ref b2), .val (.int (2 : Int32))] [(.int (e4_r1 &&& (255 : Int32))), (.int (2 : Int32)), (.ref b2)])) _
    refine XS.bipush X14.here hx rfl (hb hby d1_26) ?_
    show Steps p.tables e below (T14.setTop (mkF m 28 #[.val (.ref r1), .val (.ref b2), .val (.int (2 : Int32))] [(.int (8 : Int32)), (.int (e4_r1 &&& (255 : Int32))), (.int (2 : Int32)), (.ref b2)])) _
    refine XS.ishl X14.here hx rfl (hb hby d1_28) rfl ?_
    show Steps p.tables e below (T14.setTop (mkF m 29 #[.val (.ref r1), .val (.ref b2), .val (.int (2 : Int32))] [(.int ((e4_r1 &&& (255 : Int32)) <<< ((8 : Int32) &&& 31))), (.int (2 : Int32)), (.ref b2)])) _
    refine XS.aloadN X14.here hx rfl (hb hby d1_29) rfl rfl ?_
    show Steps p.tables e below (T14.setTop (mkF m 30 #[.val (.ref r1), .val (.ref b2), .val (.int (2 : Int32))] [(.ref r1), (.int ((e4_r1 &&& (255 : Int32)) <<< ((8 : Int32) &&& 31))), (.int (2 : Int32)), (.ref b2)])) _
    refine XS.iconst X14.here hx rfl (hb hby d1_30) ?_
    show Steps p.tables e below (T14.setTop (mkF m 31 #[.val (.ref r1), .val (.ref b2), .val (.int (2 : Int32))] [(.int (2 : Int32)), (.ref r1), (.int ((e4_r1 &&& (255 : Int32)) <<< ((8 : Int32) &&& 31))), (.int (2 : Int32)), (.ref b2)])) _
    refine XS.iloadN X14.here hx rfl (hb hby d1_31) rfl ?_
    show Steps p.tables e below (T14.setTop (mkF m 32 #[.val (.ref r1), .val (.ref b2), .val (.int (2 : Int32))] [(.int (2 : Int32)), (.int (2 : Int32)), (.ref r1), (.int ((e4_r1 &&& (255 : Int32)) <<< ((8 : Int32) &&& 31))), (.int (2 : Int32)), (.ref b2)])) _
    refine XS.imul X14.here hx rfl (hb hby d1_32) rfl ?_
    show Steps p.tables e below (T14.setTop (mkF m 33 #[.val (.ref r1), .val (.ref b2), .val (.int (2 : Int32))] [(.int (4 : Int32)), (.ref r1), (.int ((e4_r1 &&& (255 : Int32)) <<< ((8 : Int32) &&& 31))), (.int (2 : Int32)), (.ref b2)])) _
    refine XS.iconst X14.here hx rfl (hb hby d1_33) ?_
    show Steps p.tables e below (T14.setTop (mkF m 34 #[.val (.ref r1), .val (.ref b2), .val (.int (2 : Int32))] [(.int (1 : Int32)), (.int (4 : Int32)), (.ref r1), (.int ((e4_r1 &&& (255 : Int32)) <<< ((8 : Int32) &&& 31))), (.int (2 : Int32)), (.ref b2)])) _
    refine XS.iadd X14.here hx rfl (hb hby d1_34) rfl ?_
    show Steps p.tables e below (T14.setTop (mkF m 35 #[.val (.ref r1), .val (.ref b2), .val (.int (2 : Int32))] [(.int (5 : Int32)), (.ref r1), (.int ((e4_r1 &&& (255 : Int32)) <<< ((8 : Int32) &&& 31))), (.int (2 : Int32)), (.ref b2)])) _
    refine X14.baloadBytes hx (j := (5 : Int32)) (v := (.int e5_r1)) (by rw [e14]; exact Ar19.1) (State.isArrayOf_alike hZ.alike Ar19.2.1) Ar19.2.2 hin19 hat19 (g := (mkF m 35 #[.val (.ref r1), .val (.ref b2), .val (.int (2 : Int32))] [(.int (5 : Int32)), (.ref r1), (.int ((e4_r1 &&& (255 : Int32)) <<< ((8 : Int32) &&& 31))), (.int (2 : Int32)), (.ref b2)])) rfl rfl (hb hby d1_35) _ ?_
    show Steps p.tables e below (T14.setTop (mkF m 36 #[.val (.ref r1), .val (.ref b2), .val (.int (2 : Int32))] [(.int e5_r1), (.int ((e4_r1 &&& (255 : Int32)) <<< ((8 : Int32) &&& 31))), (.int (2 : Int32)), (.ref b2)])) _
    refine XS.sipush X14.here hx rfl (hb hby d1_36) ?_
    show Steps p.tables e below (T14.setTop (mkF m 39 #[.val (.ref r1), .val (.ref b2), .val (.int (2 : Int32))] [(.int (255 : Int32)), (.int e5_r1), (.int ((e4_r1 &&& (255 : Int32)) <<< ((8 : Int32) &&& 31))), (.int (2 : Int32)), (.ref b2)])) _
    refine XS.iand X14.here hx rfl (hb hby d1_39) rfl ?_
    show Steps p.tables e below (T14.setTop (mkF m 40 #[.val (.ref r1), .val (.ref b2), .val (.int (2 : Int32))] [(.int (e5_r1 &&& (255 : Int32))), (.int ((e4_r1 &&& (255 : Int32)) <<< ((8 : Int32) &&& 31))), (.int (2 : Int32)), (.ref b2)])) _
    refine XS.ior X14.here hx rfl (hb hby d1_40) rfl ?_
    show Steps p.tables e below (T14.setTop (mkF m 41 #[.val (.ref r1), .val (.ref b2), .val (.int (2 : Int32))] [(.int (((e4_r1 &&& (255 : Int32)) <<< ((8 : Int32) &&& 31)) ||| (e5_r1 &&& (255 : Int32)))), (.int (2 : Int32)), (.ref b2)])) _
    refine XS.i2c X14.here hx rfl (hb hby d1_41) rfl ?_
    show Steps p.tables e below (T14.setTop (mkF m 42 #[.val (.ref r1), .val (.ref b2), .val (.int (2 : Int32))] [(.int ((((e4_r1 &&& (255 : Int32)) <<< ((8 : Int32) &&& 31)) ||| (e5_r1 &&& (255 : Int32))).toUInt32.toUInt16.toUInt32.toInt32)), (.int (2 : Int32)), (.ref b2)])) _
    refine st20 _ ?_
    show Steps p.tables e below (T20.setTop (mkF m 43 #[.val (.ref r1), .val (.ref b2), .val (.int (2 : Int32))] [])) _
    refine XS.iinc X20.here hx rfl (hb hby d1_43) rfl (l' := #[.val (.ref r1), .val (.ref b2), .val (.int (3 : Int32))]) rfl ?_
    show Steps p.tables e below (T20.setTop (mkF m 46 #[.val (.ref r1), .val (.ref b2), .val (.int (3 : Int32))] [])) _
    refine XS.goto X20.here hx rfl (pc0 := 46) (pc' := 9) rfl (hb hby d1_46) (by decide) (by decide) ?_
    show Steps p.tables e below (T20.setTop (mkF m 9 #[.val (.ref r1), .val (.ref b2), .val (.int (3 : Int32))] [])) _
    refine XS.iloadN X20.here hx rfl (hb hby d1_9) rfl ?_
    show Steps p.tables e below (T20.setTop (mkF m 10 #[.val (.ref r1), .val (.ref b2), .val (.int (3 : Int32))] [(.int (3 : Int32))])) _
    refine XS.aloadN X20.here hx rfl (hb hby d1_10) rfl rfl ?_
    show Steps p.tables e below (T20.setTop (mkF m 11 #[.val (.ref r1), .val (.ref b2), .val (.int (3 : Int32))] [(.ref b2), (.int (3 : Int32))])) _
    refine X20.arraylength hx (by rw [e20]; exact Ar22.1) (State.isArrayOf_alike hZ.alike Ar22.2.1) (g := (mkF m 11 #[.val (.ref r1), .val (.ref b2), .val (.int (3 : Int32))] [(.ref b2), (.int (3 : Int32))])) rfl rfl (hb hby d1_11) _ ?_
    rw [len_of Sz22 Nn22]
    show Steps p.tables e below (T20.setTop (mkF m 12 #[.val (.ref r1), .val (.ref b2), .val (.int (3 : Int32))] [(.int (3 : Int32)), (.int (3 : Int32))])) _
    refine XS.icmpYes X20.here hx rfl (pc0 := 12) (pc' := 49) rfl (hb hby d1_12) rfl (flt (by decide : ¬ ((3 : Int32) < (3 : Int32)))).2.1 (by decide) (by decide) ?_
    show Steps p.tables e below (T20.setTop (mkF m 49 #[.val (.ref r1), .val (.ref b2), .val (.int (3 : Int32))] [])) _
    refine XS.aloadN X20.here hx rfl (hb hby d1_49) rfl rfl ?_
    exact k
  obtain ⟨fs, hr, hrun, hended, hW, hsame⟩ := X20.leave (v := some (.ref b2)) (fun h => by rw [Bd.returns] at h; cases h)
  refine ⟨_, _, pre23 _ ?_, hrun, hended, _, _, rfl, ?_, ⟨_, rfl⟩, hW, hsame.mono (by decide) (by decide)⟩
  · show Steps p.tables e below (T20.setTop (mkF m 50 #[.val (.ref r1), .val (.ref b2), .val (.int (3 : Int32))] [(.ref b2)])) _
    exact areturnOut X20 hx rfl Bd.returns rfl (hb hby d1_50) hr
  · show Q1g Z r1 e0_r1 e1_r1 e2_r1 e3_r1 e4_r1 e5_r1 e6_r1 k_r1 h0 n0 _ T20.heap _
    rw [e20]
    exact ⟨b2, k2, rfl, N20, K21, sz_b2, V20⟩
def own_j0_12_0 (i5 : Int32) : Int32 := (if (((i5.toUInt32 >>> ((2 : Int32) &&& 31).toUInt32).toInt32) &&& (1 : Int32)) = (0 : Int32) then (0 : Int32) else (1 : Int32))
def own_j0_181_0 (i1 : Int32) : Int32 := (if (nar .char (((((nar .byte ((((i1 &&& (65535 : Int32)).toUInt32 >>> ((8 : Int32) &&& 31).toUInt32).toInt32).toInt8.toInt32)) &&& (255 : Int32)) <<< ((8 : Int32) &&& 31)) ||| ((nar .byte ((i1 &&& (65535 : Int32)).toInt8.toInt32)) &&& (255 : Int32))).toUInt32.toUInt16.toUInt32.toInt32)) = (i1 &&& (65535 : Int32)) then (1 : Int32) else (0 : Int32))
def own_j0_199_0 (i1 : Int32) (i2 : Int32) : Int32 := (if (own_j0_181_0 i1) = (0 : Int32) then (0 : Int32) else (if (nar .char (((((nar .byte ((((i2 &&& (65535 : Int32)).toUInt32 >>> ((8 : Int32) &&& 31).toUInt32).toInt32).toInt8.toInt32)) &&& (255 : Int32)) <<< ((8 : Int32) &&& 31)) ||| ((nar .byte ((i2 &&& (65535 : Int32)).toInt8.toInt32)) &&& (255 : Int32))).toUInt32.toUInt16.toUInt32.toInt32)) = (i2 &&& (65535 : Int32)) then (1 : Int32) else (0 : Int32)))
def own_j0_226_0 (i1 : Int32) (i2 : Int32) (i3 : Int32) : Int32 := (if (own_j0_199_0 i1 i2) = (0 : Int32) then (0 : Int32) else (if (nar .char (((((nar .byte ((((i3 &&& (65535 : Int32)).toUInt32 >>> ((8 : Int32) &&& 31).toUInt32).toInt32).toInt8.toInt32)) &&& (255 : Int32)) <<< ((8 : Int32) &&& 31)) ||| ((nar .byte ((i3 &&& (65535 : Int32)).toInt8.toInt32)) &&& (255 : Int32))).toUInt32.toUInt16.toUInt32.toInt32)) = (i3 &&& (65535 : Int32)) then (1 : Int32) else (0 : Int32)))
def own_r0 (i1 : Int32) (i2 : Int32) (i3 : Int32) (i5 : Int32) : Int32 := (if (i5 &&& (3 : Int32)) = (0 : Int32) then (if (own_j0_12_0 i5) = (0 : Int32) then (1 : Int32) else (1 : Int32)) else (if (i5 &&& (3 : Int32)) = (1 : Int32) then (if (own_j0_12_0 i5) = (0 : Int32) then (nar .boolean (own_j0_181_0 i1)) else (nar .boolean (own_j0_181_0 i1))) else (if (i5 &&& (3 : Int32)) = (2 : Int32) then (if (own_j0_12_0 i5) = (0 : Int32) then (nar .boolean (own_j0_199_0 i1 i2)) else (nar .boolean (own_j0_199_0 i1 i2))) else (if (own_j0_12_0 i5) = (0 : Int32) then (nar .boolean (own_j0_226_0 i1 i2 i3)) else (nar .boolean (own_j0_226_0 i1 i2 i3))))))
theorem own_ob0_n (i5 : Int32) : (i5 &&& (3 : Int32)) = (0 : Int32) ∨ (i5 &&& (3 : Int32)) = (1 : Int32) ∨ (i5 &&& (3 : Int32)) = (2 : Int32) ∨ (i5 &&& (3 : Int32)) = (3 : Int32) := own_and3 i5
theorem own_ob0_odd (i5 : Int32) : (own_j0_12_0 i5) = (0 : Int32) ∨ (own_j0_12_0 i5) = (1 : Int32) := by
  unfold own_j0_12_0
  split
  · exact Or.inl rfl
  · exact Or.inr rfl
def Q0 (Z : State) (i1 : Int32) (i2 : Int32) (i3 : Int32) (i4 : Int32) (i5 : Int32) (h0 : Heap) (n0 : Nat) (v : Option Value) (h : Heap) (L : List Loc) : Prop := v = some (.int (own_r0 i1 i2 i3 i5)) ∧ Fr n0 L
theorem ef_0 (m : MethodId) (x0 : Int32) (x1 : Int32) (x2 : Int32) (x3 : Int32) (x4 : Int32) : entryFrame m #[(.int x0), (.int x1), (.int x2), (.int x3), (.int x4)] maxLocals = mkF m 0 #[.val (.int x0), .val (.int x1), .val (.int x2), .val (.int x3), .val (.int x4), .unset, .unset, .unset, .unset, .unset, .unset, .unset, .unset, .unset] [] := by first | (simp [entryFrame, mkF, argsToLocals, Value.category, maxLocals]; done) | rfl
set_option maxRecDepth 65536 in
set_option maxHeartbeats 40000000 in
theorem rm0 (l : Launch) (Z : State) (a0 : Array Value) (hw : ∀ d ∈ tables_1, d.before a0 Z = true) (ws : List Jvm.Cond) (i1 : Int32) (i2 : Int32) (i3 : Int32) (i4 : Int32) (i5 : Int32) (h0 : Heap) (n0 : Nat) (Z0 : n0 ≤ h0.size) :
    MetFree l x (head1 (Jvm.Cond.code x code maxLocals ret :: ws) room_1) (fun a U => a = #[(.int i1), (.int i2), (.int i3), (.int i4), (.int i5)] ∧ Z.Warmed39 U.vm ∧ U.heap = h0) (fun _ _ _ _ _ => True) (fun _ U o U' => ∃ v L, o = .returned v ∧ Q0 Z i1 i2 i3 i4 i5 h0 n0 v U'.heap L ∧ FrameEnd U o U' L room_1.cells room_1.slots) := by
  refine MetFree.of_bodySF (plainFor_of_name pn_1) hisR ?_
  intro p e s m args below meth c s₁ Bd hml0 hP hK
  obtain ⟨rfl, hZ, hh⟩ := hP
  have hx := Bd.exec
  have hby := Bd.bytes
  have hml : c.maxLocals = 14 := hml0
  have hown : s.vm.findClass "com/example/aschenputtel/aschenputtel/values/UcaWeightsKeyCharactersPinLaw" = some m.cls := findClass_of_methodNamed Bd.named
  have hnm := (name_of_methodNamed Bd.named Bd.method).1
  have X0 : Stand p l e room_1 s m #[(.int i1), (.int i2), (.int i3), (.int i4), (.int i5)] below meth c s₁ [] 0 0 := Stand.of_body Bd
  have e0 : s₁.heap = h0 := by rw [← hh, Bd.state]; rfl
  have N0 := Fr.nil n0
  have pre0 : ∀ t, Steps p.tables e below (s₁.setTop (mkF m 0 #[.val (.int i1), .val (.int i2), .val (.int i3), .val (.int i4), .val (.int i5), .unset, .unset, .unset, .unset, .unset, .unset, .unset, .unset, .unset] [])) t → Steps p.tables e below (s₁.setTop (entryFrame m #[(.int i1), (.int i2), (.int i3), (.int i4), (.int i5)] maxLocals)) t := fun t k => castTop (ef_0 m i1 i2 i3 i4 i5) k
  have pre1 : ∀ t, Steps p.tables e below (s₁.setTop (mkF m 6 #[.val (.int i1), .val (.int i2), .val (.int i3), .val (.int i4), .val (.int i5), .val (.int (i5 &&& (3 : Int32))), .unset, .unset, .unset, .unset, .unset, .unset, .unset, .unset] [])) t → Steps p.tables e below (s₁.setTop (entryFrame m #[(.int i1), (.int i2), (.int i3), (.int i4), (.int i5)] maxLocals)) t := by
    intro t k
    refine pre0 _ ?_
    show Steps p.tables e below (s₁.setTop (mkF m 0 #[.val (.int i1), .val (.int i2), .val (.int i3), .val (.int i4), .val (.int i5), .unset, .unset, .unset, .unset, .unset, .unset, .unset, .unset, .unset] [])) _
    refine XS.iload X0.here hx rfl (hb hby at_0) rfl ?_
    show Steps p.tables e below (s₁.setTop (mkF m 2 #[.val (.int i1), .val (.int i2), .val (.int i3), .val (.int i4), .val (.int i5), .unset, .unset, .unset, .unset, .unset, .unset, .unset, .unset, .unset] [(.int i5)])) _
    refine XS.iconst X0.here hx rfl (hb hby at_2) ?_
    show Steps p.tables e below (s₁.setTop (mkF m 3 #[.val (.int i1), .val (.int i2), .val (.int i3), .val (.int i4), .val (.int i5), .unset, .unset, .unset, .unset, .unset, .unset, .unset, .unset, .unset] [(.int (3 : Int32)), (.int i5)])) _
    refine XS.iand X0.here hx rfl (hb hby at_3) rfl ?_
    show Steps p.tables e below (s₁.setTop (mkF m 4 #[.val (.int i1), .val (.int i2), .val (.int i3), .val (.int i4), .val (.int i5), .unset, .unset, .unset, .unset, .unset, .unset, .unset, .unset, .unset] [(.int (i5 &&& (3 : Int32)))])) _
    refine XS.istore X0.here hx rfl (hb hby at_4) rfl (l' := #[.val (.int i1), .val (.int i2), .val (.int i3), .val (.int i4), .val (.int i5), .val (.int (i5 &&& (3 : Int32))), .unset, .unset, .unset, .unset, .unset, .unset, .unset, .unset]) rfl ?_
    exact k
  rcases ((own_ob0_n i5) : (i5 &&& (3 : Int32)) = (0 : Int32) ∨ (i5 &&& (3 : Int32)) = (1 : Int32) ∨ (i5 &&& (3 : Int32)) = (2 : Int32) ∨ (i5 &&& (3 : Int32)) = (3 : Int32)) with hk2 | hk2 | hk2 | hk2
  · have pre3 : ∀ t, Steps p.tables e below (s₁.setTop (mkF m 6 #[.val (.int i1), .val (.int i2), .val (.int i3), .val (.int i4), .val (.int i5), .val (.int (0 : Int32)), .unset, .unset, .unset, .unset, .unset, .unset, .unset, .unset] [])) t → Steps p.tables e below (s₁.setTop (entryFrame m #[(.int i1), (.int i2), (.int i3), (.int i4), (.int i5)] maxLocals)) t := fun t k => pre1 t (by rw [hk2]; exact k)
    have pre4 : ∀ t, Steps p.tables e below (s₁.setTop (mkF m 12 #[.val (.int i1), .val (.int i2), .val (.int i3), .val (.int i4), .val (.int i5), .val (.int (0 : Int32)), .unset, .unset, .unset, .unset, .unset, .unset, .unset, .unset] [(.int (((i5.toUInt32 >>> ((2 : Int32) &&& 31).toUInt32).toInt32) &&& (1 : Int32)))])) t → Steps p.tables e below (s₁.setTop (entryFrame m #[(.int i1), (.int i2), (.int i3), (.int i4), (.int i5)] maxLocals)) t := by
      intro t k
      refine pre3 _ ?_
      show Steps p.tables e below (s₁.setTop (mkF m 6 #[.val (.int i1), .val (.int i2), .val (.int i3), .val (.int i4), .val (.int i5), .val (.int (0 : Int32)), .unset, .unset, .unset, .unset, .unset, .unset, .unset, .unset] [])) _
      refine XS.iload X0.here hx rfl (hb hby at_6) rfl ?_
      show Steps p.tables e below (s₁.setTop (mkF m 8 #[.val (.int i1), .val (.int i2), .val (.int i3), .val (.int i4), .val (.int i5), .val (.int (0 : Int32)), .unset, .unset, .unset, .unset, .unset, .unset, .unset, .unset] [(.int i5)])) _
      refine XS.iconst X0.here hx rfl (hb hby at_8) ?_
      show Steps p.tables e below (s₁.setTop (mkF m 9 #[.val (.int i1), .val (.int i2), .val (.int i3), .val (.int i4), .val (.int i5), .val (.int (0 : Int32)), .unset, .unset, .unset, .unset, .unset, .unset, .unset, .unset] [(.int (2 : Int32)), (.int i5)])) _
      refine XS.iushr X0.here hx rfl (hb hby at_9) rfl ?_
      show Steps p.tables e below (s₁.setTop (mkF m 10 #[.val (.int i1), .val (.int i2), .val (.int i3), .val (.int i4), .val (.int i5), .val (.int (0 : Int32)), .unset, .unset, .unset, .unset, .unset, .unset, .unset, .unset] [(.int ((i5.toUInt32 >>> ((2 : Int32) &&& 31).toUInt32).toInt32))])) _
      refine XS.iconst X0.here hx rfl (hb hby at_10) ?_
      show Steps p.tables e below (s₁.setTop (mkF m 11 #[.val (.int i1), .val (.int i2), .val (.int i3), .val (.int i4), .val (.int i5), .val (.int (0 : Int32)), .unset, .unset, .unset, .unset, .unset, .unset, .unset, .unset] [(.int (1 : Int32)), (.int ((i5.toUInt32 >>> ((2 : Int32) &&& 31).toUInt32).toInt32))])) _
      refine XS.iand X0.here hx rfl (hb hby at_11) rfl ?_
      exact k
    have pre8 : ∀ t, Steps p.tables e below (s₁.setTop (mkF m 20 #[.val (.int i1), .val (.int i2), .val (.int i3), .val (.int i4), .val (.int i5), .val (.int (0 : Int32)), .unset, .unset, .unset, .unset, .unset, .unset, .unset, .unset] [(.int (own_j0_12_0 i5))])) t → Steps p.tables e below (s₁.setTop (entryFrame m #[(.int i1), (.int i2), (.int i3), (.int i4), (.int i5)] maxLocals)) t := by
      by_cases hc12_5 : (((i5.toUInt32 >>> ((2 : Int32) &&& 31).toUInt32).toInt32) &&& (1 : Int32)) = (0 : Int32)
      · have pre6 : ∀ t, Steps p.tables e below (s₁.setTop (mkF m 20 #[.val (.int i1), .val (.int i2), .val (.int i3), .val (.int i4), .val (.int i5), .val (.int (0 : Int32)), .unset, .unset, .unset, .unset, .unset, .unset, .unset, .unset] [(.int (0 : Int32))])) t → Steps p.tables e below (s₁.setTop (entryFrame m #[(.int i1), (.int i2), (.int i3), (.int i4), (.int i5)] maxLocals)) t := by
          intro t k
          refine pre4 _ ?_
          show Steps p.tables e below (s₁.setTop (mkF m 12 #[.val (.int i1), .val (.int i2), .val (.int i3), .val (.int i4), .val (.int i5), .val (.int (0 : Int32)), .unset, .unset, .unset, .unset, .unset, .unset, .unset, .unset] [(.int (((i5.toUInt32 >>> ((2 : Int32) &&& 31).toUInt32).toInt32) &&& (1 : Int32)))])) _
          refine XS.ifYes X0.here hx rfl (pc0 := 12) (pc' := 19) rfl (hb hby at_12) rfl ((if0 _ _).trans (teq hc12_5).1) (by decide) (by decide) ?_
          show Steps p.tables e below (s₁.setTop (mkF m 19 #[.val (.int i1), .val (.int i2), .val (.int i3), .val (.int i4), .val (.int i5), .val (.int (0 : Int32)), .unset, .unset, .unset, .unset, .unset, .unset, .unset, .unset] [])) _
          refine XS.iconst X0.here hx rfl (hb hby at_19) ?_
          exact k
        exact fun t k => pre6 t (by rw [show (own_j0_12_0 i5) = (0 : Int32) from (if_pos hc12_5)] at k; exact k)
      · have pre7 : ∀ t, Steps p.tables e below (s₁.setTop (mkF m 20 #[.val (.int i1), .val (.int i2), .val (.int i3), .val (.int i4), .val (.int i5), .val (.int (0 : Int32)), .unset, .unset, .unset, .unset, .unset, .unset, .unset, .unset] [(.int (1 : Int32))])) t → Steps p.tables e below (s₁.setTop (entryFrame m #[(.int i1), (.int i2), (.int i3), (.int i4), (.int i5)] maxLocals)) t := by
          intro t k
          refine pre4 _ ?_
          show Steps p.tables e below (s₁.setTop (mkF m 12 #[.val (.int i1), .val (.int i2), .val (.int i3), .val (.int i4), .val (.int i5), .val (.int (0 : Int32)), .unset, .unset, .unset, .unset, .unset, .unset, .unset, .unset] [(.int (((i5.toUInt32 >>> ((2 : Int32) &&& 31).toUInt32).toInt32) &&& (1 : Int32)))])) _
          refine XS.ifNo X0.here hx rfl (hb hby at_12) rfl ((if0 _ _).trans (feq hc12_5).1) ?_
          show Steps p.tables e below (s₁.setTop (mkF m 15 #[.val (.int i1), .val (.int i2), .val (.int i3), .val (.int i4), .val (.int i5), .val (.int (0 : Int32)), .unset, .unset, .unset, .unset, .unset, .unset, .unset, .unset] [])) _
          refine XS.iconst X0.here hx rfl (hb hby at_15) ?_
          show Steps p.tables e below (s₁.setTop (mkF m 16 #[.val (.int i1), .val (.int i2), .val (.int i3), .val (.int i4), .val (.int i5), .val (.int (0 : Int32)), .unset, .unset, .unset, .unset, .unset, .unset, .unset, .unset] [(.int (1 : Int32))])) _
          refine XS.goto X0.here hx rfl (pc0 := 16) (pc' := 20) rfl (hb hby at_16) (by decide) (by decide) ?_
          exact k
        exact fun t k => pre7 t (by rw [show (own_j0_12_0 i5) = (1 : Int32) from (if_neg hc12_5)] at k; exact k)
    have pre9 : ∀ t, Steps p.tables e below (s₁.setTop (mkF m 22 #[.val (.int i1), .val (.int i2), .val (.int i3), .val (.int i4), .val (.int i5), .val (.int (0 : Int32)), .val (.int (own_j0_12_0 i5)), .unset, .unset, .unset, .unset, .unset, .unset, .unset] [])) t → Steps p.tables e below (s₁.setTop (entryFrame m #[(.int i1), (.int i2), (.int i3), (.int i4), (.int i5)] maxLocals)) t := by
      intro t k
      refine pre8 _ ?_
      show Steps p.tables e below (s₁.setTop (mkF m 20 #[.val (.int i1), .val (.int i2), .val (.int i3), .val (.int i4), .val (.int i5), .val (.int (0 : Int32)), .unset, .unset, .unset, .unset, .unset, .unset, .unset, .unset] [(.int (own_j0_12_0 i5))])) _
      refine XS.istore X0.here hx rfl (hb hby at_20) rfl (l' := #[.val (.int i1), .val (.int i2), .val (.int i3), .val (.int i4), .val (.int i5), .val (.int (0 : Int32)), .val (.int (own_j0_12_0 i5)), .unset, .unset, .unset, .unset, .unset, .unset, .unset]) rfl ?_
      exact k
    rcases ((own_ob0_odd i5) : (own_j0_12_0 i5) = (0 : Int32) ∨ (own_j0_12_0 i5) = (1 : Int32)) with hk10 | hk10
    · have pre11 : ∀ t, Steps p.tables e below (s₁.setTop (mkF m 22 #[.val (.int i1), .val (.int i2), .val (.int i3), .val (.int i4), .val (.int i5), .val (.int (0 : Int32)), .val (.int (0 : Int32)), .unset, .unset, .unset, .unset, .unset, .unset, .unset] [])) t → Steps p.tables e below (s₁.setTop (entryFrame m #[(.int i1), (.int i2), (.int i3), (.int i4), (.int i5)] maxLocals)) t := fun t k => pre9 t (by rw [hk10]; exact k)
      obtain ⟨T12, h12, k12, X12, e12, E12, A12, st12⟩ := newP X0 hx hZ (hw _ (List.mem_of_getElem? (i := 1) rfl)) e0 (g := (mkF m 59 #[.val (.int i1), .val (.int i2), .val (.int i3), .val (.int i4), .val (.int i5), .val (.int (0 : Int32)), .val (.int (0 : Int32)), .val (.int (0 : Int32)), .val (.int (i1 &&& (65535 : Int32))), .val (.int (i2 &&& (65535 : Int32))), .val (.int (i3 &&& (65535 : Int32))), .unset, .unset, .unset] [(.int (0 : Int32))])) rfl (hb hby at_59) rfl (by decide) (cap := 0) (by decide) (by decide) (by decide) (by decide)
      obtain ⟨b12, g12⟩ : ∃ z, z = h0.size := ⟨_, rfl⟩
      rw [← g12] at A12 st12
      have sz_b12 : h0.size ≤ b12 := Nat.le_trans (Keep.refl h0 []).1 (Nat.le_of_eq g12.symm)
      have K13 : Keep h0 h12 [] := (Keep.refl h0 []).ext E12
      have V12 : Arv Z h12 b12 k12 .byte (0 : Int32) [] (.int (0 : Int32)) := Arv.new A12 (by decide)
      obtain ⟨_, _, ⟨T14, L14, k14, n14⟩, -, X14, ⟨Lc14, hQ14, l14, y14, z14⟩, st14⟩ := Jvm.LawKit.callS X12 hx (y := (⟨"com/example/aschenputtel/aschenputtel/values/UcaWeights", "keyCharacters", "([B)[C"⟩ : MethodName)) hown (mvT hZ (hw _ (List.mem_of_getElem? (i := 2) rfl))) (mvT hZ (hw _ (List.mem_of_getElem? (i := 3) rfl))) (mvT hZ (hw _ (List.mem_of_getElem? (i := 4) rfl))) (mvT hZ (hw _ (List.mem_of_getElem? (i := 5) rfl))) (by decide) (backOf (W := 0) (rm1 l Z a0 hw [] b12 k12 h12 n0 (Nat.le_trans Z0 K13.1) V12) hZ (hw _ (List.mem_of_getElem? (i := 5) rfl)) (hw _ (List.mem_of_getElem? (i := 4) rfl)) (by decide) (by decide)) (g := (mkF m 147 #[.val (.int i1), .val (.int i2), .val (.int i3), .val (.int i4), .val (.int i5), .val (.int (0 : Int32)), .val (.int (0 : Int32)), .val (.int (0 : Int32)), .val (.int (i1 &&& (65535 : Int32))), .val (.int (i2 &&& (65535 : Int32))), .val (.int (i3 &&& (65535 : Int32))), .val (.ref b12), .unset, .unset] [(.ref b12)])) rfl (by rw [hml]; rfl) (argsL := [(.ref b12)]) (rest := []) (lenOf pd_0 rfl) rfl (by show 2 * 0 + _ ≤ _; exact Nat.le_of_eq rfl) (hb hby at_147) (fun _ _ => ⟨rfl, e12, (by decide : 1 + 1 ≤ _), (by decide : 0 + 0 ≤ _)⟩)
      dsimp only [Pt.U, Pt.locs, Pt.cells, Pt.slots] at X14 l14 y14 z14 st14 hQ14
      subst l14 y14 z14
      obtain ⟨b14_0, k14_1, rfl, Nq14, Kq14, sq14_0, f14_0⟩ := hQ14
      have sz_b14_0 : h0.size ≤ b14_0 := Nat.le_trans K13.1 sq14_0
      have K15 : Keep h0 T14.heap [] := K13.trans Kq14 all0
      have N14 := Fr.app N0 Nq14
      obtain ⟨cl16, Ar16, -, Sz16, Nn16, -, -⟩ := id f14_0
      have pre17 : ∀ t, Steps p.tables e below (T14.setTop (mkF m 247 #[.val (.int i1), .val (.int i2), .val (.int i3), .val (.int i4), .val (.int i5), .val (.int (0 : Int32)), .val (.int (0 : Int32)), .val (.int (0 : Int32)), .val (.int (i1 &&& (65535 : Int32))), .val (.int (i2 &&& (65535 : Int32))), .val (.int (i3 &&& (65535 : Int32))), .val (.ref b12), .val (.ref b14_0), .val (.int (1 : Int32))] [(.int (1 : Int32))])) t → Steps p.tables e below (s₁.setTop (entryFrame m #[(.int i1), (.int i2), (.int i3), (.int i4), (.int i5)] maxLocals)) t := by
        intro t k
        refine pre11 _ ?_
        show Steps p.tables e below (s₁.setTop (mkF m 22 #[.val (.int i1), .val (.int i2), .val (.int i3), .val (.int i4), .val (.int i5), .val (.int (0 : Int32)), .val (.int (0 : Int32)), .unset, .unset, .unset, .unset, .unset, .unset, .unset] [])) _
        refine XS.iconst X0.here hx rfl (hb hby at_22) ?_
        show Steps p.tables e below (s₁.setTop (mkF m 23 #[.val (.int i1), .val (.int i2), .val (.int i3), .val (.int i4), .val (.int i5), .val (.int (0 : Int32)), .val (.int (0 : Int32)), .unset, .unset, .unset, .unset, .unset, .unset, .unset] [(.int (2 : Int32))])) _
        refine XS.iload X0.here hx rfl (hb hby at_23) rfl ?_
        show Steps p.tables e below (s₁.setTop (mkF m 25 #[.val (.int i1), .val (.int i2), .val (.int i3), .val (.int i4), .val (.int i5), .val (.int (0 : Int32)), .val (.int (0 : Int32)), .unset, .unset, .unset, .unset, .unset, .unset, .unset] [(.int (0 : Int32)), (.int (2 : Int32))])) _
        refine XS.imul X0.here hx rfl (hb hby at_25) rfl ?_
        show Steps p.tables e below (s₁.setTop (mkF m 26 #[.val (.int i1), .val (.int i2), .val (.int i3), .val (.int i4), .val (.int i5), .val (.int (0 : Int32)), .val (.int (0 : Int32)), .unset, .unset, .unset, .unset, .unset, .unset, .unset] [(.int (0 : Int32))])) _
        refine XS.iload X0.here hx rfl (hb hby at_26) rfl ?_
        show Steps p.tables e below (s₁.setTop (mkF m 28 #[.val (.int i1), .val (.int i2), .val (.int i3), .val (.int i4), .val (.int i5), .val (.int (0 : Int32)), .val (.int (0 : Int32)), .unset, .unset, .unset, .unset, .unset, .unset, .unset] [(.int (0 : Int32)), (.int (0 : Int32))])) _
        refine XS.ifYes X0.here hx rfl (pc0 := 28) (pc' := 35) rfl (hb hby at_28) rfl ((if0 _ _).trans (teq (by decide : (0 : Int32) = (0 : Int32))).1) (by decide) (by decide) ?_
        show Steps p.tables e below (s₁.setTop (mkF m 35 #[.val (.int i1), .val (.int i2), .val (.int i3), .val (.int i4), .val (.int i5), .val (.int (0 : Int32)), .val (.int (0 : Int32)), .unset, .unset, .unset, .unset, .unset, .unset, .unset] [(.int (0 : Int32))])) _
        refine XS.iconst X0.here hx rfl (hb hby at_35) ?_
        show Steps p.tables e below (s₁.setTop (mkF m 36 #[.val (.int i1), .val (.int i2), .val (.int i3), .val (.int i4), .val (.int i5), .val (.int (0 : Int32)), .val (.int (0 : Int32)), .unset, .unset, .unset, .unset, .unset, .unset, .unset] [(.int (0 : Int32)), (.int (0 : Int32))])) _
        refine XS.iadd X0.here hx rfl (hb hby at_36) rfl ?_
        show Steps p.tables e below (s₁.setTop (mkF m 37 #[.val (.int i1), .val (.int i2), .val (.int i3), .val (.int i4), .val (.int i5), .val (.int (0 : Int32)), .val (.int (0 : Int32)), .unset, .unset, .unset, .unset, .unset, .unset, .unset] [(.int (0 : Int32))])) _
        refine XS.istore X0.here hx rfl (hb hby at_37) rfl (l' := #[.val (.int i1), .val (.int i2), .val (.int i3), .val (.int i4), .val (.int i5), .val (.int (0 : Int32)), .val (.int (0 : Int32)), .val (.int (0 : Int32)), .unset, .unset, .unset, .unset, .unset, .unset]) rfl ?_
        show Steps p.tables e below (s₁.setTop (mkF m 39 #[.val (.int i1), .val (.int i2), .val (.int i3), .val (.int i4), .val (.int i5), .val (.int (0 : Int32)), .val (.int (0 : Int32)), .val (.int (0 : Int32)), .unset, .unset, .unset, .unset, .unset, .unset] [])) _
        refine XS.iloadN X0.here hx rfl (hb hby at_39) rfl ?_
        show Steps p.tables e below (s₁.setTop (mkF m 40 #[.val (.int i1), .val (.int i2), .val (.int i3), .val (.int i4), .val (.int i5), .val (.int (0 : Int32)), .val (.int (0 : Int32)), .val (.int (0 : Int32)), .unset, .unset, .unset, .unset, .unset, .unset] [(.int i1)])) _
        refine X0.ldcInt hx hown (mvT hZ (hw _ (List.mem_of_getElem? (i := 0) rfl))) (g := (mkF m 40 #[.val (.int i1), .val (.int i2), .val (.int i3), .val (.int i4), .val (.int i5), .val (.int (0 : Int32)), .val (.int (0 : Int32)), .val (.int (0 : Int32)), .unset, .unset, .unset, .unset, .unset, .unset] [(.int i1)])) rfl (hb hby at_40) _ ?_
        show Steps p.tables e below (s₁.setTop (mkF m 42 #[.val (.int i1), .val (.int i2), .val (.int i3), .val (.int i4), .val (.int i5), .val (.int (0 : Int32)), .val (.int (0 : Int32)), .val (.int (0 : Int32)), .unset, .unset, .unset, .unset, .unset, .unset] [(.int (65535 : Int32)), (.int i1)])) _
        refine XS.iand X0.here hx rfl (hb hby at_42) rfl ?_
        show Steps p.tables e below (s₁.setTop (mkF m 43 #[.val (.int i1), .val (.int i2), .val (.int i3), .val (.int i4), .val (.int i5), .val (.int (0 : Int32)), .val (.int (0 : Int32)), .val (.int (0 : Int32)), .unset, .unset, .unset, .unset, .unset, .unset] [(.int (i1 &&& (65535 : Int32)))])) _
        refine XS.istore X0.here hx rfl (hb hby at_43) rfl (l' := #[.val (.int i1), .val (.int i2), .val (.int i3), .val (.int i4), .val (.int i5), .val (.int (0 : Int32)), .val (.int (0 : Int32)), .val (.int (0 : Int32)), .val (.int (i1 &&& (65535 : Int32))), .unset, .unset, .unset, .unset, .unset]) rfl ?_
        show Steps p.tables e below (s₁.setTop (mkF m 45 #[.val (.int i1), .val (.int i2), .val (.int i3), .val (.int i4), .val (.int i5), .val (.int (0 : Int32)), .val (.int (0 : Int32)), .val (.int (0 : Int32)), .val (.int (i1 &&& (65535 : Int32))), .unset, .unset, .unset, .unset, .unset] [])) _
        refine XS.iloadN X0.here hx rfl (hb hby at_45) rfl ?_
        show Steps p.tables e below (s₁.setTop (mkF m 46 #[.val (.int i1), .val (.int i2), .val (.int i3), .val (.int i4), .val (.int i5), .val (.int (0 : Int32)), .val (.int (0 : Int32)), .val (.int (0 : Int32)), .val (.int (i1 &&& (65535 : Int32))), .unset, .unset, .unset, .unset, .unset] [(.int i2)])) _
        refine X0.ldcInt hx hown (mvT hZ (hw _ (List.mem_of_getElem? (i := 0) rfl))) (g := (mkF m 46 #[.val (.int i1), .val (.int i2), .val (.int i3), .val (.int i4), .val (.int i5), .val (.int (0 : Int32)), .val (.int (0 : Int32)), .val (.int (0 : Int32)), .val (.int (i1 &&& (65535 : Int32))), .unset, .unset, .unset, .unset, .unset] [(.int i2)])) rfl (hb hby at_46) _ ?_
        show Steps p.tables e below (s₁.setTop (mkF m 48 #[.val (.int i1), .val (.int i2), .val (.int i3), .val (.int i4), .val (.int i5), .val (.int (0 : Int32)), .val (.int (0 : Int32)), .val (.int (0 : Int32)), .val (.int (i1 &&& (65535 : Int32))), .unset, .unset, .unset, .unset, .unset] [(.int (65535 : Int32)), (.int i2)])) _
        refine XS.iand X0.here hx rfl (hb hby at_48) rfl ?_
        show Steps p.tables e below (s₁.setTop (mkF m 49 #[.val (.int i1), .val (.int i2), .val (.int i3), .val (.int i4), .val (.int i5), .val (.int (0 : Int32)), .val (.int (0 : Int32)), .val (.int (0 : Int32)), .val (.int (i1 &&& (65535 : Int32))), .unset, .unset, .unset, .unset, .unset] [(.int (i2 &&& (65535 : Int32)))])) _
        refine XS.istore X0.here hx rfl (hb hby at_49) rfl (l' := #[.val (.int i1), .val (.int i2), .val (.int i3), .val (.int i4), .val (.int i5), .val (.int (0 : Int32)), .val (.int (0 : Int32)), .val (.int (0 : Int32)), .val (.int (i1 &&& (65535 : Int32))), .val (.int (i2 &&& (65535 : Int32))), .unset, .unset, .unset, .unset]) rfl ?_
        show Steps p.tables e below (s₁.setTop (mkF m 51 #[.val (.int i1), .val (.int i2), .val (.int i3), .val (.int i4), .val (.int i5), .val (.int (0 : Int32)), .val (.int (0 : Int32)), .val (.int (0 : Int32)), .val (.int (i1 &&& (65535 : Int32))), .val (.int (i2 &&& (65535 : Int32))), .unset, .unset, .unset, .unset] [])) _
        refine XS.iloadN X0.here hx rfl (hb hby at_51) rfl ?_
        show Steps p.tables e below (s₁.setTop (mkF m 52 #[.val (.int i1), .val (.int i2), .val (.int i3), .val (.int i4), .val (.int i5), .val (.int (0 : Int32)), .val (.int (0 : Int32)), .val (.int (0 : Int32)), .val (.int (i1 &&& (65535 : Int32))), .val (.int (i2 &&& (65535 : Int32))), .unset, .unset, .unset, .unset] [(.int i3)])) _
        refine X0.ldcInt hx hown (mvT hZ (hw _ (List.mem_of_getElem? (i := 0) rfl))) (g := (mkF m 52 #[.val (.int i1), .val (.int i2), .val (.int i3), .val (.int i4), .val (.int i5), .val (.int (0 : Int32)), .val (.int (0 : Int32)), .val (.int (0 : Int32)), .val (.int (i1 &&& (65535 : Int32))), .val (.int (i2 &&& (65535 : Int32))), .unset, .unset, .unset, .unset] [(.int i3)])) rfl (hb hby at_52) _ ?_
        show Steps p.tables e below (s₁.setTop (mkF m 54 #[.val (.int i1), .val (.int i2), .val (.int i3), .val (.int i4), .val (.int i5), .val (.int (0 : Int32)), .val (.int (0 : Int32)), .val (.int (0 : Int32)), .val (.int (i1 &&& (65535 : Int32))), .val (.int (i2 &&& (65535 : Int32))), .unset, .unset, .unset, .unset] [(.int (65535 : Int32)), (.int i3)])) _
        refine XS.iand X0.here hx rfl (hb hby at_54) rfl ?_
        show Steps p.tables e below (s₁.setTop (mkF m 55 #[.val (.int i1), .val (.int i2), .val (.int i3), .val (.int i4), .val (.int i5), .val (.int (0 : Int32)), .val (.int (0 : Int32)), .val (.int (0 : Int32)), .val (.int (i1 &&& (65535 : Int32))), .val (.int (i2 &&& (65535 : Int32))), .unset, .unset, .unset, .unset] [(.int (i3 &&& (65535 : Int32)))])) _
        refine XS.istore X0.here hx rfl (hb hby at_55) rfl (l' := #[.val (.int i1), .val (.int i2), .val (.int i3), .val (.int i4), .val (.int i5), .val (.int (0 : Int32)), .val (.int (0 : Int32)), .val (.int (0 : Int32)), .val (.int (i1 &&& (65535 : Int32))), .val (.int (i2 &&& (65535 : Int32))), .val (.int (i3 &&& (65535 : Int32))), .unset, .unset, .unset]) rfl ?_
        show Steps p.tables e below (s₁.setTop (mkF m 57 #[.val (.int i1), .val (.int i2), .val (.int i3), .val (.int i4), .val (.int i5), .val (.int (0 : Int32)), .val (.int (0 : Int32)), .val (.int (0 : Int32)), .val (.int (i1 &&& (65535 : Int32))), .val (.int (i2 &&& (65535 : Int32))), .val (.int (i3 &&& (65535 : Int32))), .unset, .unset, .unset] [])) _
        refine XS.iload X0.here hx rfl (hb hby at_57) rfl ?_
        show Steps p.tables e below (s₁.setTop (mkF m 59 #[.val (.int i1), .val (.int i2), .val (.int i3), .val (.int i4), .val (.int i5), .val (.int (0 : Int32)), .val (.int (0 : Int32)), .val (.int (0 : Int32)), .val (.int (i1 &&& (65535 : Int32))), .val (.int (i2 &&& (65535 : Int32))), .val (.int (i3 &&& (65535 : Int32))), .unset, .unset, .unset] [(.int (0 : Int32))])) _
        refine st12 _ ?_
        show Steps p.tables e below (T12.setTop (mkF m 61 #[.val (.int i1), .val (.int i2), .val (.int i3), .val (.int i4), .val (.int i5), .val (.int (0 : Int32)), .val (.int (0 : Int32)), .val (.int (0 : Int32)), .val (.int (i1 &&& (65535 : Int32))), .val (.int (i2 &&& (65535 : Int32))), .val (.int (i3 &&& (65535 : Int32))), .unset, .unset, .unset] [(.ref b12)])) _
        refine XS.astore X12.here hx rfl (hb hby at_61) rfl rfl (l' := #[.val (.int i1), .val (.int i2), .val (.int i3), .val (.int i4), .val (.int i5), .val (.int (0 : Int32)), .val (.int (0 : Int32)), .val (.int (0 : Int32)), .val (.int (i1 &&& (65535 : Int32))), .val (.int (i2 &&& (65535 : Int32))), .val (.int (i3 &&& (65535 : Int32))), .val (.ref b12), .unset, .unset]) rfl ?_
        show Steps p.tables e below (T12.setTop (mkF m 63 #[.val (.int i1), .val (.int i2), .val (.int i3), .val (.int i4), .val (.int i5), .val (.int (0 : Int32)), .val (.int (0 : Int32)), .val (.int (0 : Int32)), .val (.int (i1 &&& (65535 : Int32))), .val (.int (i2 &&& (65535 : Int32))), .val (.int (i3 &&& (65535 : Int32))), .val (.ref b12), .unset, .unset] [])) _
        refine XS.iload X12.here hx rfl (hb hby at_63) rfl ?_
        show Steps p.tables e below (T12.setTop (mkF m 65 #[.val (.int i1), .val (.int i2), .val (.int i3), .val (.int i4), .val (.int i5), .val (.int (0 : Int32)), .val (.int (0 : Int32)), .val (.int (0 : Int32)), .val (.int (i1 &&& (65535 : Int32))), .val (.int (i2 &&& (65535 : Int32))), .val (.int (i3 &&& (65535 : Int32))), .val (.ref b12), .unset, .unset] [(.int (0 : Int32))])) _
        refine XS.ifYes X12.here hx rfl (pc0 := 65) (pc' := 85) rfl (hb hby at_65) rfl ((if0 _ _).trans (flt (by decide : ¬ ((0 : Int32) < (0 : Int32)))).2.2.2) (by decide) (by decide) ?_
        show Steps p.tables e below (T12.setTop (mkF m 85 #[.val (.int i1), .val (.int i2), .val (.int i3), .val (.int i4), .val (.int i5), .val (.int (0 : Int32)), .val (.int (0 : Int32)), .val (.int (0 : Int32)), .val (.int (i1 &&& (65535 : Int32))), .val (.int (i2 &&& (65535 : Int32))), .val (.int (i3 &&& (65535 : Int32))), .val (.ref b12), .unset, .unset] [])) _
        refine XS.iload X12.here hx rfl (hb hby at_85) rfl ?_
        show Steps p.tables e below (T12.setTop (mkF m 87 #[.val (.int i1), .val (.int i2), .val (.int i3), .val (.int i4), .val (.int i5), .val (.int (0 : Int32)), .val (.int (0 : Int32)), .val (.int (0 : Int32)), .val (.int (i1 &&& (65535 : Int32))), .val (.int (i2 &&& (65535 : Int32))), .val (.int (i3 &&& (65535 : Int32))), .val (.ref b12), .unset, .unset] [(.int (0 : Int32))])) _
        refine XS.iconst X12.here hx rfl (hb hby at_87) ?_
        show Steps p.tables e below (T12.setTop (mkF m 88 #[.val (.int i1), .val (.int i2), .val (.int i3), .val (.int i4), .val (.int i5), .val (.int (0 : Int32)), .val (.int (0 : Int32)), .val (.int (0 : Int32)), .val (.int (i1 &&& (65535 : Int32))), .val (.int (i2 &&& (65535 : Int32))), .val (.int (i3 &&& (65535 : Int32))), .val (.ref b12), .unset, .unset] [(.int (1 : Int32)), (.int (0 : Int32))])) _
        refine XS.icmpYes X12.here hx rfl (pc0 := 88) (pc' := 108) rfl (hb hby at_88) rfl (flt (by decide : ¬ ((1 : Int32) < (0 : Int32)))).2.2.2 (by decide) (by decide) ?_
        show Steps p.tables e below (T12.setTop (mkF m 108 #[.val (.int i1), .val (.int i2), .val (.int i3), .val (.int i4), .val (.int i5), .val (.int (0 : Int32)), .val (.int (0 : Int32)), .val (.int (0 : Int32)), .val (.int (i1 &&& (65535 : Int32))), .val (.int (i2 &&& (65535 : Int32))), .val (.int (i3 &&& (65535 : Int32))), .val (.ref b12), .unset, .unset] [])) _
        refine XS.iload X12.here hx rfl (hb hby at_108) rfl ?_
        show Steps p.tables e below (T12.setTop (mkF m 110 #[.val (.int i1), .val (.int i2), .val (.int i3), .val (.int i4), .val (.int i5), .val (.int (0 : Int32)), .val (.int (0 : Int32)), .val (.int (0 : Int32)), .val (.int (i1 &&& (65535 : Int32))), .val (.int (i2 &&& (65535 : Int32))), .val (.int (i3 &&& (65535 : Int32))), .val (.ref b12), .unset, .unset] [(.int (0 : Int32))])) _
        refine XS.iconst X12.here hx rfl (hb hby at_110) ?_
        show Steps p.tables e below (T12.setTop (mkF m 111 #[.val (.int i1), .val (.int i2), .val (.int i3), .val (.int i4), .val (.int i5), .val (.int (0 : Int32)), .val (.int (0 : Int32)), .val (.int (0 : Int32)), .val (.int (i1 &&& (65535 : Int32))), .val (.int (i2 &&& (65535 : Int32))), .val (.int (i3 &&& (65535 : Int32))), .val (.ref b12), .unset, .unset] [(.int (2 : Int32)), (.int (0 : Int32))])) _
        refine XS.icmpYes X12.here hx rfl (pc0 := 111) (pc' := 131) rfl (hb hby at_111) rfl (flt (by decide : ¬ ((2 : Int32) < (0 : Int32)))).2.2.2 (by decide) (by decide) ?_
        show Steps p.tables e below (T12.setTop (mkF m 131 #[.val (.int i1), .val (.int i2), .val (.int i3), .val (.int i4), .val (.int i5), .val (.int (0 : Int32)), .val (.int (0 : Int32)), .val (.int (0 : Int32)), .val (.int (i1 &&& (65535 : Int32))), .val (.int (i2 &&& (65535 : Int32))), .val (.int (i3 &&& (65535 : Int32))), .val (.ref b12), .unset, .unset] [])) _
        refine XS.iload X12.here hx rfl (hb hby at_131) rfl ?_
        show Steps p.tables e below (T12.setTop (mkF m 133 #[.val (.int i1), .val (.int i2), .val (.int i3), .val (.int i4), .val (.int i5), .val (.int (0 : Int32)), .val (.int (0 : Int32)), .val (.int (0 : Int32)), .val (.int (i1 &&& (65535 : Int32))), .val (.int (i2 &&& (65535 : Int32))), .val (.int (i3 &&& (65535 : Int32))), .val (.ref b12), .unset, .unset] [(.int (0 : Int32))])) _
        refine XS.ifYes X12.here hx rfl (pc0 := 133) (pc' := 145) rfl (hb hby at_133) rfl ((if0 _ _).trans (teq (by decide : (0 : Int32) = (0 : Int32))).1) (by decide) (by decide) ?_
        show Steps p.tables e below (T12.setTop (mkF m 145 #[.val (.int i1), .val (.int i2), .val (.int i3), .val (.int i4), .val (.int i5), .val (.int (0 : Int32)), .val (.int (0 : Int32)), .val (.int (0 : Int32)), .val (.int (i1 &&& (65535 : Int32))), .val (.int (i2 &&& (65535 : Int32))), .val (.int (i3 &&& (65535 : Int32))), .val (.ref b12), .unset, .unset] [])) _
        refine XS.aload X12.here hx rfl (hb hby at_145) rfl rfl ?_
        show Steps p.tables e below (T12.setTop (mkF m 147 #[.val (.int i1), .val (.int i2), .val (.int i3), .val (.int i4), .val (.int i5), .val (.int (0 : Int32)), .val (.int (0 : Int32)), .val (.int (0 : Int32)), .val (.int (i1 &&& (65535 : Int32))), .val (.int (i2 &&& (65535 : Int32))), .val (.int (i3 &&& (65535 : Int32))), .val (.ref b12), .unset, .unset] [(.ref b12)])) _
        refine st14 _ ?_
        show Steps p.tables e below (T14.setTop (mkF m 150 #[.val (.int i1), .val (.int i2), .val (.int i3), .val (.int i4), .val (.int i5), .val (.int (0 : Int32)), .val (.int (0 : Int32)), .val (.int (0 : Int32)), .val (.int (i1 &&& (65535 : Int32))), .val (.int (i2 &&& (65535 : Int32))), .val (.int (i3 &&& (65535 : Int32))), .val (.ref b12), .unset, .unset] [(.ref b14_0)])) _
        refine XS.astore X14.here hx rfl (hb hby at_150) rfl rfl (l' := #[.val (.int i1), .val (.int i2), .val (.int i3), .val (.int i4), .val (.int i5), .val (.int (0 : Int32)), .val (.int (0 : Int32)), .val (.int (0 : Int32)), .val (.int (i1 &&& (65535 : Int32))), .val (.int (i2 &&& (65535 : Int32))), .val (.int (i3 &&& (65535 : Int32))), .val (.ref b12), .val (.ref b14_0), .unset]) rfl ?_
        show Steps p.tables e below (T14.setTop (mkF m 152 #[.val (.int i1), .val (.int i2), .val (.int i3), .val (.int i4), .val (.int i5), .val (.int (0 : Int32)), .val (.int (0 : Int32)), .val (.int (0 : Int32)), .val (.int (i1 &&& (65535 : Int32))), .val (.int (i2 &&& (65535 : Int32))), .val (.int (i3 &&& (65535 : Int32))), .val (.ref b12), .val (.ref b14_0), .unset] [])) _
        refine XS.aload X14.here hx rfl (hb hby at_152) rfl rfl ?_
        show Steps p.tables e below (T14.setTop (mkF m 154 #[.val (.int i1), .val (.int i2), .val (.int i3), .val (.int i4), .val (.int i5), .val (.int (0 : Int32)), .val (.int (0 : Int32)), .val (.int (0 : Int32)), .val (.int (i1 &&& (65535 : Int32))), .val (.int (i2 &&& (65535 : Int32))), .val (.int (i3 &&& (65535 : Int32))), .val (.ref b12), .val (.ref b14_0), .unset] [(.ref b14_0)])) _
        refine X14.arraylength hx (by exact Ar16.1) (State.isArrayOf_alike hZ.alike Ar16.2.1) (g := (mkF m 154 #[.val (.int i1), .val (.int i2), .val (.int i3), .val (.int i4), .val (.int i5), .val (.int (0 : Int32)), .val (.int (0 : Int32)), .val (.int (0 : Int32)), .val (.int (i1 &&& (65535 : Int32))), .val (.int (i2 &&& (65535 : Int32))), .val (.int (i3 &&& (65535 : Int32))), .val (.ref b12), .val (.ref b14_0), .unset] [(.ref b14_0)])) rfl rfl (hb hby at_154) _ ?_
        rw [len_of Sz16 Nn16]
        show Steps p.tables e below (T14.setTop (mkF m 155 #[.val (.int i1), .val (.int i2), .val (.int i3), .val (.int i4), .val (.int i5), .val (.int (0 : Int32)), .val (.int (0 : Int32)), .val (.int (0 : Int32)), .val (.int (i1 &&& (65535 : Int32))), .val (.int (i2 &&& (65535 : Int32))), .val (.int (i3 &&& (65535 : Int32))), .val (.ref b12), .val (.ref b14_0), .unset] [(.int (0 : Int32))])) _
        refine XS.iload X14.here hx rfl (hb hby at_155) rfl ?_
        show Steps p.tables e below (T14.setTop (mkF m 157 #[.val (.int i1), .val (.int i2), .val (.int i3), .val (.int i4), .val (.int i5), .val (.int (0 : Int32)), .val (.int (0 : Int32)), .val (.int (0 : Int32)), .val (.int (i1 &&& (65535 : Int32))), .val (.int (i2 &&& (65535 : Int32))), .val (.int (i3 &&& (65535 : Int32))), .val (.ref b12), .val (.ref b14_0), .unset] [(.int (0 : Int32)), (.int (0 : Int32))])) _
        refine XS.icmpYes X14.here hx rfl (pc0 := 157) (pc' := 162) rfl (hb hby at_157) rfl (teq (by decide : (0 : Int32) = (0 : Int32))).1 (by decide) (by decide) ?_
        show Steps p.tables e below (T14.setTop (mkF m 162 #[.val (.int i1), .val (.int i2), .val (.int i3), .val (.int i4), .val (.int i5), .val (.int (0 : Int32)), .val (.int (0 : Int32)), .val (.int (0 : Int32)), .val (.int (i1 &&& (65535 : Int32))), .val (.int (i2 &&& (65535 : Int32))), .val (.int (i3 &&& (65535 : Int32))), .val (.ref b12), .val (.ref b14_0), .unset] [])) _
        refine XS.iconst X14.here hx rfl (hb hby at_162) ?_
        show Steps p.tables e below (T14.setTop (mkF m 163 #[.val (.int i1), .val (.int i2), .val (.int i3), .val (.int i4), .val (.int i5), .val (.int (0 : Int32)), .val (.int (0 : Int32)), .val (.int (0 : Int32)), .val (.int (i1 &&& (65535 : Int32))), .val (.int (i2 &&& (65535 : Int32))), .val (.int (i3 &&& (65535 : Int32))), .val (.ref b12), .val (.ref b14_0), .unset] [(.int (1 : Int32))])) _
        refine XS.istore X14.here hx rfl (hb hby at_163) rfl (l' := #[.val (.int i1), .val (.int i2), .val (.int i3), .val (.int i4), .val (.int i5), .val (.int (0 : Int32)), .val (.int (0 : Int32)), .val (.int (0 : Int32)), .val (.int (i1 &&& (65535 : Int32))), .val (.int (i2 &&& (65535 : Int32))), .val (.int (i3 &&& (65535 : Int32))), .val (.ref b12), .val (.ref b14_0), .val (.int (1 : Int32))]) rfl ?_
        show Steps p.tables e below (T14.setTop (mkF m 165 #[.val (.int i1), .val (.int i2), .val (.int i3), .val (.int i4), .val (.int i5), .val (.int (0 : Int32)), .val (.int (0 : Int32)), .val (.int (0 : Int32)), .val (.int (i1 &&& (65535 : Int32))), .val (.int (i2 &&& (65535 : Int32))), .val (.int (i3 &&& (65535 : Int32))), .val (.ref b12), .val (.ref b14_0), .val (.int (1 : Int32))] [])) _
        refine XS.iload X14.here hx rfl (hb hby at_165) rfl ?_
        show Steps p.tables e below (T14.setTop (mkF m 167 #[.val (.int i1), .val (.int i2), .val (.int i3), .val (.int i4), .val (.int i5), .val (.int (0 : Int32)), .val (.int (0 : Int32)), .val (.int (0 : Int32)), .val (.int (i1 &&& (65535 : Int32))), .val (.int (i2 &&& (65535 : Int32))), .val (.int (i3 &&& (65535 : Int32))), .val (.ref b12), .val (.ref b14_0), .val (.int (1 : Int32))] [(.int (0 : Int32))])) _
        refine XS.ifYes X14.here hx rfl (pc0 := 167) (pc' := 191) rfl (hb hby at_167) rfl ((if0 _ _).trans (flt (by decide : ¬ ((0 : Int32) < (0 : Int32)))).2.2.2) (by decide) (by decide) ?_
        show Steps p.tables e below (T14.setTop (mkF m 191 #[.val (.int i1), .val (.int i2), .val (.int i3), .val (.int i4), .val (.int i5), .val (.int (0 : Int32)), .val (.int (0 : Int32)), .val (.int (0 : Int32)), .val (.int (i1 &&& (65535 : Int32))), .val (.int (i2 &&& (65535 : Int32))), .val (.int (i3 &&& (65535 : Int32))), .val (.ref b12), .val (.ref b14_0), .val (.int (1 : Int32))] [])) _
        refine XS.iload X14.here hx rfl (hb hby at_191) rfl ?_
        show Steps p.tables e below (T14.setTop (mkF m 193 #[.val (.int i1), .val (.int i2), .val (.int i3), .val (.int i4), .val (.int i5), .val (.int (0 : Int32)), .val (.int (0 : Int32)), .val (.int (0 : Int32)), .val (.int (i1 &&& (65535 : Int32))), .val (.int (i2 &&& (65535 : Int32))), .val (.int (i3 &&& (65535 : Int32))), .val (.ref b12), .val (.ref b14_0), .val (.int (1 : Int32))] [(.int (0 : Int32))])) _
        refine XS.iconst X14.here hx rfl (hb hby at_193) ?_
        show Steps p.tables e below (T14.setTop (mkF m 194 #[.val (.int i1), .val (.int i2), .val (.int i3), .val (.int i4), .val (.int i5), .val (.int (0 : Int32)), .val (.int (0 : Int32)), .val (.int (0 : Int32)), .val (.int (i1 &&& (65535 : Int32))), .val (.int (i2 &&& (65535 : Int32))), .val (.int (i3 &&& (65535 : Int32))), .val (.ref b12), .val (.ref b14_0), .val (.int (1 : Int32))] [(.int (1 : Int32)), (.int (0 : Int32))])) _
        refine XS.icmpYes X14.here hx rfl (pc0 := 194) (pc' := 218) rfl (hb hby at_194) rfl (flt (by decide : ¬ ((1 : Int32) < (0 : Int32)))).2.2.2 (by decide) (by decide) ?_
        show Steps p.tables e below (T14.setTop (mkF m 218 #[.val (.int i1), .val (.int i2), .val (.int i3), .val (.int i4), .val (.int i5), .val (.int (0 : Int32)), .val (.int (0 : Int32)), .val (.int (0 : Int32)), .val (.int (i1 &&& (65535 : Int32))), .val (.int (i2 &&& (65535 : Int32))), .val (.int (i3 &&& (65535 : Int32))), .val (.ref b12), .val (.ref b14_0), .val (.int (1 : Int32))] [])) _
        refine XS.iload X14.here hx rfl (hb hby at_218) rfl ?_
        show Steps p.tables e below (T14.setTop (mkF m 220 #[.val (.int i1), .val (.int i2), .val (.int i3), .val (.int i4), .val (.int i5), .val (.int (0 : Int32)), .val (.int (0 : Int32)), .val (.int (0 : Int32)), .val (.int (i1 &&& (65535 : Int32))), .val (.int (i2 &&& (65535 : Int32))), .val (.int (i3 &&& (65535 : Int32))), .val (.ref b12), .val (.ref b14_0), .val (.int (1 : Int32))] [(.int (0 : Int32))])) _
        refine XS.iconst X14.here hx rfl (hb hby at_220) ?_
        show Steps p.tables e below (T14.setTop (mkF m 221 #[.val (.int i1), .val (.int i2), .val (.int i3), .val (.int i4), .val (.int i5), .val (.int (0 : Int32)), .val (.int (0 : Int32)), .val (.int (0 : Int32)), .val (.int (i1 &&& (65535 : Int32))), .val (.int (i2 &&& (65535 : Int32))), .val (.int (i3 &&& (65535 : Int32))), .val (.ref b12), .val (.ref b14_0), .val (.int (1 : Int32))] [(.int (2 : Int32)), (.int (0 : Int32))])) _
        refine XS.icmpYes X14.here hx rfl (pc0 := 221) (pc' := 245) rfl (hb hby at_221) rfl (flt (by decide : ¬ ((2 : Int32) < (0 : Int32)))).2.2.2 (by decide) (by decide) ?_
        show Steps p.tables e below (T14.setTop (mkF m 245 #[.val (.int i1), .val (.int i2), .val (.int i3), .val (.int i4), .val (.int i5), .val (.int (0 : Int32)), .val (.int (0 : Int32)), .val (.int (0 : Int32)), .val (.int (i1 &&& (65535 : Int32))), .val (.int (i2 &&& (65535 : Int32))), .val (.int (i3 &&& (65535 : Int32))), .val (.ref b12), .val (.ref b14_0), .val (.int (1 : Int32))] [])) _
        refine XS.iload X14.here hx rfl (hb hby at_245) rfl ?_
        exact k
      obtain ⟨fs, hr, hrun, hended, hW, hsame⟩ := X14.leave (v := some (.int (1 : Int32))) (fun h => by rw [Bd.returns] at h; cases h)
      refine ⟨_, _, pre17 _ ?_, hrun, hended, _, _, rfl, ?_, ⟨_, rfl⟩, hW, hsame.mono (by decide) (by decide)⟩
      · show Steps p.tables e below (T14.setTop (mkF m 247 #[.val (.int i1), .val (.int i2), .val (.int i3), .val (.int i4), .val (.int i5), .val (.int (0 : Int32)), .val (.int (0 : Int32)), .val (.int (0 : Int32)), .val (.int (i1 &&& (65535 : Int32))), .val (.int (i2 &&& (65535 : Int32))), .val (.int (i3 &&& (65535 : Int32))), .val (.ref b12), .val (.ref b14_0), .val (.int (1 : Int32))] [(.int (1 : Int32))])) _
        exact retN X14 hx (t := .boolean) Bd.returns (by simp) (hb hby at_247) hr
      · show Q0 Z i1 i2 i3 i4 i5 h0 n0 _ T14.heap _
        exact ⟨congrArg (fun z => some (Value.int z)) (show (own_r0 i1 i2 i3 i5) = (1 : Int32) from ((if_pos hk2).trans (if_pos hk10))).symm, N14⟩
    · have pre18 : ∀ t, Steps p.tables e below (s₁.setTop (mkF m 22 #[.val (.int i1), .val (.int i2), .val (.int i3), .val (.int i4), .val (.int i5), .val (.int (0 : Int32)), .val (.int (1 : Int32)), .unset, .unset, .unset, .unset, .unset, .unset, .unset] [])) t → Steps p.tables e below (s₁.setTop (entryFrame m #[(.int i1), (.int i2), (.int i3), (.int i4), (.int i5)] maxLocals)) t := fun t k => pre9 t (by rw [hk10]; exact k)
      obtain ⟨T19, h19, k19, X19, e19, E19, A19, st19⟩ := newP X0 hx hZ (hw _ (List.mem_of_getElem? (i := 1) rfl)) e0 (g := (mkF m 59 #[.val (.int i1), .val (.int i2), .val (.int i3), .val (.int i4), .val (.int i5), .val (.int (0 : Int32)), .val (.int (1 : Int32)), .val (.int (1 : Int32)), .val (.int (i1 &&& (65535 : Int32))), .val (.int (i2 &&& (65535 : Int32))), .val (.int (i3 &&& (65535 : Int32))), .unset, .unset, .unset] [(.int (1 : Int32))])) rfl (hb hby at_59) rfl (by decide) (cap := 1) (by decide) (by decide) (by decide) (by decide)
      obtain ⟨b19, g19⟩ : ∃ z, z = h0.size := ⟨_, rfl⟩
      rw [← g19] at A19 st19
      have sz_b19 : h0.size ≤ b19 := Nat.le_trans (Keep.refl h0 []).1 (Nat.le_of_eq g19.symm)
      have K20 : Keep h0 h19 [] := (Keep.refl h0 []).ext E19
      have V19 : Arv Z h19 b19 k19 .byte (1 : Int32) [(.int (0 : Int32))] (.int (0 : Int32)) := (Arv.new A19 (by decide)).pad (pad_rep [] (.int (0 : Int32)) 1)
      obtain ⟨cl21, Ar21, Cq21, Sz21, Nn21, Hh21, Gg21⟩ := id V19
      have hin21 : ¬ ((0 : Int32) < 0 ∨ cl21.slots.size ≤ ((0 : Int32)).toNatClampNeg) := inb_of Sz21 ⟨by decide, by decide⟩
      obtain ⟨T21, h21, X21, e21, W21, st21⟩ := stB X19 hx hZ e19 Ar21 (j := (0 : Int32)) hin21 (g := (mkF m 144 #[.val (.int i1), .val (.int i2), .val (.int i3), .val (.int i4), .val (.int i5), .val (.int (0 : Int32)), .val (.int (1 : Int32)), .val (.int (1 : Int32)), .val (.int (i1 &&& (65535 : Int32))), .val (.int (i2 &&& (65535 : Int32))), .val (.int (i3 &&& (65535 : Int32))), .val (.ref b19), .unset, .unset] [(.int (i4.toInt8.toInt32)), (.int (0 : Int32)), (.ref b19)])) rfl rfl (hb hby at_144)
      have V21 : Arv Z h21 b19 k19 .byte (1 : Int32) [(.int (nar .byte (i4.toInt8.toInt32)))] (.int (0 : Int32)) := Arv.set Ar21 Cq21 Sz21 Nn21 Hh21 Gg21 (fits_nar_byte _) W21 0 rfl (Nat.le_of_ble_eq_true rfl)
      have N21 := Fr.snoc X21 N0 (Nat.le_trans Z0 sz_b19)
      have K22 : Keep h0 h21 [] := K20.wr W21 (Or.inr sz_b19)
      obtain ⟨_, _, ⟨T23, L23, k23, n23⟩, -, X23, ⟨Lc23, hQ23, l23, y23, z23⟩, st23⟩ := Jvm.LawKit.callS X21 hx (y := (⟨"com/example/aschenputtel/aschenputtel/values/UcaWeights", "keyCharacters", "([B)[C"⟩ : MethodName)) hown (mvT hZ (hw _ (List.mem_of_getElem? (i := 2) rfl))) (mvT hZ (hw _ (List.mem_of_getElem? (i := 3) rfl))) (mvT hZ (hw _ (List.mem_of_getElem? (i := 4) rfl))) (mvT hZ (hw _ (List.mem_of_getElem? (i := 5) rfl))) (by decide) (backOf (W := 0) (rm1a l Z a0 hw [] b19 (nar .byte (i4.toInt8.toInt32)) k19 h21 n0 (Nat.le_trans Z0 K22.1) V21) hZ (hw _ (List.mem_of_getElem? (i := 5) rfl)) (hw _ (List.mem_of_getElem? (i := 4) rfl)) (by decide) (by decide)) (g := (mkF m 147 #[.val (.int i1), .val (.int i2), .val (.int i3), .val (.int i4), .val (.int i5), .val (.int (0 : Int32)), .val (.int (1 : Int32)), .val (.int (1 : Int32)), .val (.int (i1 &&& (65535 : Int32))), .val (.int (i2 &&& (65535 : Int32))), .val (.int (i3 &&& (65535 : Int32))), .val (.ref b19), .unset, .unset] [(.ref b19)])) rfl (by rw [hml]; rfl) (argsL := [(.ref b19)]) (rest := []) (lenOf pd_0 rfl) rfl (by show 2 * 0 + _ ≤ _; exact Nat.le_of_eq rfl) (hb hby at_147) (fun _ _ => ⟨rfl, e21, (by decide : 1 + 1 ≤ _), (by decide : 1 + 0 ≤ _)⟩)
      dsimp only [Pt.U, Pt.locs, Pt.cells, Pt.slots] at X23 l23 y23 z23 st23 hQ23
      subst l23 y23 z23
      obtain ⟨b23_0, k23_1, rfl, Nq23, Kq23, sq23_0, f23_0⟩ := hQ23
      have sz_b23_0 : h0.size ≤ b23_0 := Nat.le_trans K22.1 sq23_0
      have K24 : Keep h0 T23.heap [] := K22.trans Kq23 all0
      have N23 := Fr.app N21 Nq23
      obtain ⟨cl25, Ar25, -, Sz25, Nn25, -, -⟩ := id f23_0
      have pre26 : ∀ t, Steps p.tables e below (T23.setTop (mkF m 247 #[.val (.int i1), .val (.int i2), .val (.int i3), .val (.int i4), .val (.int i5), .val (.int (0 : Int32)), .val (.int (1 : Int32)), .val (.int (1 : Int32)), .val (.int (i1 &&& (65535 : Int32))), .val (.int (i2 &&& (65535 : Int32))), .val (.int (i3 &&& (65535 : Int32))), .val (.ref b19), .val (.ref b23_0), .val (.int (1 : Int32))] [(.int (1 : Int32))])) t → Steps p.tables e below (s₁.setTop (entryFrame m #[(.int i1), (.int i2), (.int i3), (.int i4), (.int i5)] maxLocals)) t := by
        intro t k
        refine pre18 _ ?_
        show Steps p.tables e below (s₁.setTop (mkF m 22 #[.val (.int i1), .val (.int i2), .val (.int i3), .val (.int i4), .val (.int i5), .val (.int (0 : Int32)), .val (.int (1 : Int32)), .unset, .unset, .unset, .unset, .unset, .unset, .unset] [])) _
        refine XS.iconst X0.here hx rfl (hb hby at_22) ?_
        show Steps p.tables e below (s₁.setTop (mkF m 23 #[.val (.int i1), .val (.int i2), .val (.int i3), .val (.int i4), .val (.int i5), .val (.int (0 : Int32)), .val (.int (1 : Int32)), .unset, .unset, .unset, .unset, .unset, .unset, .unset] [(.int (2 : Int32))])) _
        refine XS.iload X0.here hx rfl (hb hby at_23) rfl ?_
        show Steps p.tables e below (s₁.setTop (mkF m 25 #[.val (.int i1), .val (.int i2), .val (.int i3), .val (.int i4), .val (.int i5), .val (.int (0 : Int32)), .val (.int (1 : Int32)), .unset, .unset, .unset, .unset, .unset, .unset, .unset] [(.int (0 : Int32)), (.int (2 : Int32))])) _
        refine XS.imul X0.here hx rfl (hb hby at_25) rfl ?_
        show Steps p.tables e below (s₁.setTop (mkF m 26 #[.val (.int i1), .val (.int i2), .val (.int i3), .val (.int i4), .val (.int i5), .val (.int (0 : Int32)), .val (.int (1 : Int32)), .unset, .unset, .unset, .unset, .unset, .unset, .unset] [(.int (0 : Int32))])) _
        refine XS.iload X0.here hx rfl (hb hby at_26) rfl ?_
        show Steps p.tables e below (s₁.setTop (mkF m 28 #[.val (.int i1), .val (.int i2), .val (.int i3), .val (.int i4), .val (.int i5), .val (.int (0 : Int32)), .val (.int (1 : Int32)), .unset, .unset, .unset, .unset, .unset, .unset, .unset] [(.int (1 : Int32)), (.int (0 : Int32))])) _
        refine XS.ifNo X0.here hx rfl (hb hby at_28) rfl ((if0 _ _).trans (feq (by decide : ¬ ((1 : Int32) = (0 : Int32)))).1) ?_
        show Steps p.tables e below (s₁.setTop (mkF m 31 #[.val (.int i1), .val (.int i2), .val (.int i3), .val (.int i4), .val (.int i5), .val (.int (0 : Int32)), .val (.int (1 : Int32)), .unset, .unset, .unset, .unset, .unset, .unset, .unset] [(.int (0 : Int32))])) _
        refine XS.iconst X0.here hx rfl (hb hby at_31) ?_
        show Steps p.tables e below (s₁.setTop (mkF m 32 #[.val (.int i1), .val (.int i2), .val (.int i3), .val (.int i4), .val (.int i5), .val (.int (0 : Int32)), .val (.int (1 : Int32)), .unset, .unset, .unset, .unset, .unset, .unset, .unset] [(.int (1 : Int32)), (.int (0 : Int32))])) _
        refine XS.goto X0.here hx rfl (pc0 := 32) (pc' := 36) rfl (hb hby at_32) (by decide) (by decide) ?_
        show Steps p.tables e below (s₁.setTop (mkF m 36 #[.val (.int i1), .val (.int i2), .val (.int i3), .val (.int i4), .val (.int i5), .val (.int (0 : Int32)), .val (.int (1 : Int32)), .unset, .unset, .unset, .unset, .unset, .unset, .unset] [(.int (1 : Int32)), (.int (0 : Int32))])) _
        refine XS.iadd X0.here hx rfl (hb hby at_36) rfl ?_
        show Steps p.tables e below (s₁.setTop (mkF m 37 #[.val (.int i1), .val (.int i2), .val (.int i3), .val (.int i4), .val (.int i5), .val (.int (0 : Int32)), .val (.int (1 : Int32)), .unset, .unset, .unset, .unset, .unset, .unset, .unset] [(.int (1 : Int32))])) _
        refine XS.istore X0.here hx rfl (hb hby at_37) rfl (l' := #[.val (.int i1), .val (.int i2), .val (.int i3), .val (.int i4), .val (.int i5), .val (.int (0 : Int32)), .val (.int (1 : Int32)), .val (.int (1 : Int32)), .unset, .unset, .unset, .unset, .unset, .unset]) rfl ?_
        show Steps p.tables e below (s₁.setTop (mkF m 39 #[.val (.int i1), .val (.int i2), .val (.int i3), .val (.int i4), .val (.int i5), .val (.int (0 : Int32)), .val (.int (1 : Int32)), .val (.int (1 : Int32)), .unset, .unset, .unset, .unset, .unset, .unset] [])) _
        refine XS.iloadN X0.here hx rfl (hb hby at_39) rfl ?_
        show Steps p.tables e below (s₁.setTop (mkF m 40 #[.val (.int i1), .val (.int i2), .val (.int i3), .val (.int i4), .val (.int i5), .val (.int (0 : Int32)), .val (.int (1 : Int32)), .val (.int (1 : Int32)), .unset, .unset, .unset, .unset, .unset, .unset] [(.int i1)])) _
        refine X0.ldcInt hx hown (mvT hZ (hw _ (List.mem_of_getElem? (i := 0) rfl))) (g := (mkF m 40 #[.val (.int i1), .val (.int i2), .val (.int i3), .val (.int i4), .val (.int i5), .val (.int (0 : Int32)), .val (.int (1 : Int32)), .val (.int (1 : Int32)), .unset, .unset, .unset, .unset, .unset, .unset] [(.int i1)])) rfl (hb hby at_40) _ ?_
        show Steps p.tables e below (s₁.setTop (mkF m 42 #[.val (.int i1), .val (.int i2), .val (.int i3), .val (.int i4), .val (.int i5), .val (.int (0 : Int32)), .val (.int (1 : Int32)), .val (.int (1 : Int32)), .unset, .unset, .unset, .unset, .unset, .unset] [(.int (65535 : Int32)), (.int i1)])) _
        refine XS.iand X0.here hx rfl (hb hby at_42) rfl ?_
        show Steps p.tables e below (s₁.setTop (mkF m 43 #[.val (.int i1), .val (.int i2), .val (.int i3), .val (.int i4), .val (.int i5), .val (.int (0 : Int32)), .val (.int (1 : Int32)), .val (.int (1 : Int32)), .unset, .unset, .unset, .unset, .unset, .unset] [(.int (i1 &&& (65535 : Int32)))])) _
        refine XS.istore X0.here hx rfl (hb hby at_43) rfl (l' := #[.val (.int i1), .val (.int i2), .val (.int i3), .val (.int i4), .val (.int i5), .val (.int (0 : Int32)), .val (.int (1 : Int32)), .val (.int (1 : Int32)), .val (.int (i1 &&& (65535 : Int32))), .unset, .unset, .unset, .unset, .unset]) rfl ?_
        show Steps p.tables e below (s₁.setTop (mkF m 45 #[.val (.int i1), .val (.int i2), .val (.int i3), .val (.int i4), .val (.int i5), .val (.int (0 : Int32)), .val (.int (1 : Int32)), .val (.int (1 : Int32)), .val (.int (i1 &&& (65535 : Int32))), .unset, .unset, .unset, .unset, .unset] [])) _
        refine XS.iloadN X0.here hx rfl (hb hby at_45) rfl ?_
        show Steps p.tables e below (s₁.setTop (mkF m 46 #[.val (.int i1), .val (.int i2), .val (.int i3), .val (.int i4), .val (.int i5), .val (.int (0 : Int32)), .val (.int (1 : Int32)), .val (.int (1 : Int32)), .val (.int (i1 &&& (65535 : Int32))), .unset, .unset, .unset, .unset, .unset] [(.int i2)])) _
        refine X0.ldcInt hx hown (mvT hZ (hw _ (List.mem_of_getElem? (i := 0) rfl))) (g := (mkF m 46 #[.val (.int i1), .val (.int i2), .val (.int i3), .val (.int i4), .val (.int i5), .val (.int (0 : Int32)), .val (.int (1 : Int32)), .val (.int (1 : Int32)), .val (.int (i1 &&& (65535 : Int32))), .unset, .unset, .unset, .unset, .unset] [(.int i2)])) rfl (hb hby at_46) _ ?_
        show Steps p.tables e below (s₁.setTop (mkF m 48 #[.val (.int i1), .val (.int i2), .val (.int i3), .val (.int i4), .val (.int i5), .val (.int (0 : Int32)), .val (.int (1 : Int32)), .val (.int (1 : Int32)), .val (.int (i1 &&& (65535 : Int32))), .unset, .unset, .unset, .unset, .unset] [(.int (65535 : Int32)), (.int i2)])) _
        refine XS.iand X0.here hx rfl (hb hby at_48) rfl ?_
        show Steps p.tables e below (s₁.setTop (mkF m 49 #[.val (.int i1), .val (.int i2), .val (.int i3), .val (.int i4), .val (.int i5), .val (.int (0 : Int32)), .val (.int (1 : Int32)), .val (.int (1 : Int32)), .val (.int (i1 &&& (65535 : Int32))), .unset, .unset, .unset, .unset, .unset] [(.int (i2 &&& (65535 : Int32)))])) _
        refine XS.istore X0.here hx rfl (hb hby at_49) rfl (l' := #[.val (.int i1), .val (.int i2), .val (.int i3), .val (.int i4), .val (.int i5), .val (.int (0 : Int32)), .val (.int (1 : Int32)), .val (.int (1 : Int32)), .val (.int (i1 &&& (65535 : Int32))), .val (.int (i2 &&& (65535 : Int32))), .unset, .unset, .unset, .unset]) rfl ?_
        show Steps p.tables e below (s₁.setTop (mkF m 51 #[.val (.int i1), .val (.int i2), .val (.int i3), .val (.int i4), .val (.int i5), .val (.int (0 : Int32)), .val (.int (1 : Int32)), .val (.int (1 : Int32)), .val (.int (i1 &&& (65535 : Int32))), .val (.int (i2 &&& (65535 : Int32))), .unset, .unset, .unset, .unset] [])) _
        refine XS.iloadN X0.here hx rfl (hb hby at_51) rfl ?_
        show Steps p.tables e below (s₁.setTop (mkF m 52 #[.val (.int i1), .val (.int i2), .val (.int i3), .val (.int i4), .val (.int i5), .val (.int (0 : Int32)), .val (.int (1 : Int32)), .val (.int (1 : Int32)), .val (.int (i1 &&& (65535 : Int32))), .val (.int (i2 &&& (65535 : Int32))), .unset, .unset, .unset, .unset] [(.int i3)])) _
        refine X0.ldcInt hx hown (mvT hZ (hw _ (List.mem_of_getElem? (i := 0) rfl))) (g := (mkF m 52 #[.val (.int i1), .val (.int i2), .val (.int i3), .val (.int i4), .val (.int i5), .val (.int (0 : Int32)), .val (.int (1 : Int32)), .val (.int (1 : Int32)), .val (.int (i1 &&& (65535 : Int32))), .val (.int (i2 &&& (65535 : Int32))), .unset, .unset, .unset, .unset] [(.int i3)])) rfl (hb hby at_52) _ ?_
        show Steps p.tables e below (s₁.setTop (mkF m 54 #[.val (.int i1), .val (.int i2), .val (.int i3), .val (.int i4), .val (.int i5), .val (.int (0 : Int32)), .val (.int (1 : Int32)), .val (.int (1 : Int32)), .val (.int (i1 &&& (65535 : Int32))), .val (.int (i2 &&& (65535 : Int32))), .unset, .unset, .unset, .unset] [(.int (65535 : Int32)), (.int i3)])) _
        refine XS.iand X0.here hx rfl (hb hby at_54) rfl ?_
        show Steps p.tables e below (s₁.setTop (mkF m 55 #[.val (.int i1), .val (.int i2), .val (.int i3), .val (.int i4), .val (.int i5), .val (.int (0 : Int32)), .val (.int (1 : Int32)), .val (.int (1 : Int32)), .val (.int (i1 &&& (65535 : Int32))), .val (.int (i2 &&& (65535 : Int32))), .unset, .unset, .unset, .unset] [(.int (i3 &&& (65535 : Int32)))])) _
        refine XS.istore X0.here hx rfl (hb hby at_55) rfl (l' := #[.val (.int i1), .val (.int i2), .val (.int i3), .val (.int i4), .val (.int i5), .val (.int (0 : Int32)), .val (.int (1 : Int32)), .val (.int (1 : Int32)), .val (.int (i1 &&& (65535 : Int32))), .val (.int (i2 &&& (65535 : Int32))), .val (.int (i3 &&& (65535 : Int32))), .unset, .unset, .unset]) rfl ?_
        show Steps p.tables e below (s₁.setTop (mkF m 57 #[.val (.int i1), .val (.int i2), .val (.int i3), .val (.int i4), .val (.int i5), .val (.int (0 : Int32)), .val (.int (1 : Int32)), .val (.int (1 : Int32)), .val (.int (i1 &&& (65535 : Int32))), .val (.int (i2 &&& (65535 : Int32))), .val (.int (i3 &&& (65535 : Int32))), .unset, .unset, .unset] [])) _
        refine XS.iload X0.here hx rfl (hb hby at_57) rfl ?_
        show Steps p.tables e below (s₁.setTop (mkF m 59 #[.val (.int i1), .val (.int i2), .val (.int i3), .val (.int i4), .val (.int i5), .val (.int (0 : Int32)), .val (.int (1 : Int32)), .val (.int (1 : Int32)), .val (.int (i1 &&& (65535 : Int32))), .val (.int (i2 &&& (65535 : Int32))), .val (.int (i3 &&& (65535 : Int32))), .unset, .unset, .unset] [(.int (1 : Int32))])) _
        refine st19 _ ?_
        show Steps p.tables e below (T19.setTop (mkF m 61 #[.val (.int i1), .val (.int i2), .val (.int i3), .val (.int i4), .val (.int i5), .val (.int (0 : Int32)), .val (.int (1 : Int32)), .val (.int (1 : Int32)), .val (.int (i1 &&& (65535 : Int32))), .val (.int (i2 &&& (65535 : Int32))), .val (.int (i3 &&& (65535 : Int32))), .unset, .unset, .unset] [(.ref b19)])) _
        refine XS.astore X19.here hx rfl (hb hby at_61) rfl rfl (l' := #[.val (.int i1), .val (.int i2), .val (.int i3), .val (.int i4), .val (.int i5), .val (.int (0 : Int32)), .val (.int (1 : Int32)), .val (.int (1 : Int32)), .val (.int (i1 &&& (65535 : Int32))), .val (.int (i2 &&& (65535 : Int32))), .val (.int (i3 &&& (65535 : Int32))), .val (.ref b19), .unset, .unset]) rfl ?_
        show Steps p.tables e below (T19.setTop (mkF m 63 #[.val (.int i1), .val (.int i2), .val (.int i3), .val (.int i4), .val (.int i5), .val (.int (0 : Int32)), .val (.int (1 : Int32)), .val (.int (1 : Int32)), .val (.int (i1 &&& (65535 : Int32))), .val (.int (i2 &&& (65535 : Int32))), .val (.int (i3 &&& (65535 : Int32))), .val (.ref b19), .unset, .unset] [])) _
        refine XS.iload X19.here hx rfl (hb hby at_63) rfl ?_
        show Steps p.tables e below (T19.setTop (mkF m 65 #[.val (.int i1), .val (.int i2), .val (.int i3), .val (.int i4), .val (.int i5), .val (.int (0 : Int32)), .val (.int (1 : Int32)), .val (.int (1 : Int32)), .val (.int (i1 &&& (65535 : Int32))), .val (.int (i2 &&& (65535 : Int32))), .val (.int (i3 &&& (65535 : Int32))), .val (.ref b19), .unset, .unset] [(.int (0 : Int32))])) _
        refine XS.ifYes X19.here hx rfl (pc0 := 65) (pc' := 85) rfl (hb hby at_65) rfl ((if0 _ _).trans (flt (by decide : ¬ ((0 : Int32) < (0 : Int32)))).2.2.2) (by decide) (by decide) ?_
        show Steps p.tables e below (T19.setTop (mkF m 85 #[.val (.int i1), .val (.int i2), .val (.int i3), .val (.int i4), .val (.int i5), .val (.int (0 : Int32)), .val (.int (1 : Int32)), .val (.int (1 : Int32)), .val (.int (i1 &&& (65535 : Int32))), .val (.int (i2 &&& (65535 : Int32))), .val (.int (i3 &&& (65535 : Int32))), .val (.ref b19), .unset, .unset] [])) _
        refine XS.iload X19.here hx rfl (hb hby at_85) rfl ?_
        show Steps p.tables e below (T19.setTop (mkF m 87 #[.val (.int i1), .val (.int i2), .val (.int i3), .val (.int i4), .val (.int i5), .val (.int (0 : Int32)), .val (.int (1 : Int32)), .val (.int (1 : Int32)), .val (.int (i1 &&& (65535 : Int32))), .val (.int (i2 &&& (65535 : Int32))), .val (.int (i3 &&& (65535 : Int32))), .val (.ref b19), .unset, .unset] [(.int (0 : Int32))])) _
        refine XS.iconst X19.here hx rfl (hb hby at_87) ?_
        show Steps p.tables e below (T19.setTop (mkF m 88 #[.val (.int i1), .val (.int i2), .val (.int i3), .val (.int i4), .val (.int i5), .val (.int (0 : Int32)), .val (.int (1 : Int32)), .val (.int (1 : Int32)), .val (.int (i1 &&& (65535 : Int32))), .val (.int (i2 &&& (65535 : Int32))), .val (.int (i3 &&& (65535 : Int32))), .val (.ref b19), .unset, .unset] [(.int (1 : Int32)), (.int (0 : Int32))])) _
        refine XS.icmpYes X19.here hx rfl (pc0 := 88) (pc' := 108) rfl (hb hby at_88) rfl (flt (by decide : ¬ ((1 : Int32) < (0 : Int32)))).2.2.2 (by decide) (by decide) ?_
        show Steps p.tables e below (T19.setTop (mkF m 108 #[.val (.int i1), .val (.int i2), .val (.int i3), .val (.int i4), .val (.int i5), .val (.int (0 : Int32)), .val (.int (1 : Int32)), .val (.int (1 : Int32)), .val (.int (i1 &&& (65535 : Int32))), .val (.int (i2 &&& (65535 : Int32))), .val (.int (i3 &&& (65535 : Int32))), .val (.ref b19), .unset, .unset] [])) _
        refine XS.iload X19.here hx rfl (hb hby at_108) rfl ?_
        show Steps p.tables e below (T19.setTop (mkF m 110 #[.val (.int i1), .val (.int i2), .val (.int i3), .val (.int i4), .val (.int i5), .val (.int (0 : Int32)), .val (.int (1 : Int32)), .val (.int (1 : Int32)), .val (.int (i1 &&& (65535 : Int32))), .val (.int (i2 &&& (65535 : Int32))), .val (.int (i3 &&& (65535 : Int32))), .val (.ref b19), .unset, .unset] [(.int (0 : Int32))])) _
        refine XS.iconst X19.here hx rfl (hb hby at_110) ?_
        show Steps p.tables e below (T19.setTop (mkF m 111 #[.val (.int i1), .val (.int i2), .val (.int i3), .val (.int i4), .val (.int i5), .val (.int (0 : Int32)), .val (.int (1 : Int32)), .val (.int (1 : Int32)), .val (.int (i1 &&& (65535 : Int32))), .val (.int (i2 &&& (65535 : Int32))), .val (.int (i3 &&& (65535 : Int32))), .val (.ref b19), .unset, .unset] [(.int (2 : Int32)), (.int (0 : Int32))])) _
        refine XS.icmpYes X19.here hx rfl (pc0 := 111) (pc' := 131) rfl (hb hby at_111) rfl (flt (by decide : ¬ ((2 : Int32) < (0 : Int32)))).2.2.2 (by decide) (by decide) ?_
        show Steps p.tables e below (T19.setTop (mkF m 131 #[.val (.int i1), .val (.int i2), .val (.int i3), .val (.int i4), .val (.int i5), .val (.int (0 : Int32)), .val (.int (1 : Int32)), .val (.int (1 : Int32)), .val (.int (i1 &&& (65535 : Int32))), .val (.int (i2 &&& (65535 : Int32))), .val (.int (i3 &&& (65535 : Int32))), .val (.ref b19), .unset, .unset] [])) _
        refine XS.iload X19.here hx rfl (hb hby at_131) rfl ?_
        show Steps p.tables e below (T19.setTop (mkF m 133 #[.val (.int i1), .val (.int i2), .val (.int i3), .val (.int i4), .val (.int i5), .val (.int (0 : Int32)), .val (.int (1 : Int32)), .val (.int (1 : Int32)), .val (.int (i1 &&& (65535 : Int32))), .val (.int (i2 &&& (65535 : Int32))), .val (.int (i3 &&& (65535 : Int32))), .val (.ref b19), .unset, .unset] [(.int (1 : Int32))])) _
        refine XS.ifNo X19.here hx rfl (hb hby at_133) rfl ((if0 _ _).trans (feq (by decide : ¬ ((1 : Int32) = (0 : Int32)))).1) ?_
        show Steps p.tables e below (T19.setTop (mkF m 136 #[.val (.int i1), .val (.int i2), .val (.int i3), .val (.int i4), .val (.int i5), .val (.int (0 : Int32)), .val (.int (1 : Int32)), .val (.int (1 : Int32)), .val (.int (i1 &&& (65535 : Int32))), .val (.int (i2 &&& (65535 : Int32))), .val (.int (i3 &&& (65535 : Int32))), .val (.ref b19), .unset, .unset] [])) _
        refine XS.aload X19.here hx rfl (hb hby at_136) rfl rfl ?_
        show Steps p.tables e below (T19.setTop (mkF m 138 #[.val (.int i1), .val (.int i2), .val (.int i3), .val (.int i4), .val (.int i5), .val (.int (0 : Int32)), .val (.int (1 : Int32)), .val (.int (1 : Int32)), .val (.int (i1 &&& (65535 : Int32))), .val (.int (i2 &&& (65535 : Int32))), .val (.int (i3 &&& (65535 : Int32))), .val (.ref b19), .unset, .unset] [(.ref b19)])) _
        refine XS.iconst X19.here hx rfl (hb hby at_138) ?_
        show Steps p.tables e below (T19.setTop (mkF m 139 #[.val (.int i1), .val (.int i2), .val (.int i3), .val (.int i4), .val (.int i5), .val (.int (0 : Int32)), .val (.int (1 : Int32)), .val (.int (1 : Int32)), .val (.int (i1 &&& (65535 : Int32))), .val (.int (i2 &&& (65535 : Int32))), .val (.int (i3 &&& (65535 : Int32))), .val (.ref b19), .unset, .unset] [(.int (2 : Int32)), (.ref b19)])) _
        refine XS.iload X19.here hx rfl (hb hby at_139) rfl ?_
        show Steps p.tables e below (T19.setTop (mkF m 141 #[.val (.int i1), .val (.int i2), .val (.int i3), .val (.int i4), .val (.int i5), .val (.int (0 : Int32)), .val (.int (1 : Int32)), .val (.int (1 : Int32)), .val (.int (i1 &&& (65535 : Int32))), .val (.int (i2 &&& (65535 : Int32))), .val (.int (i3 &&& (65535 : Int32))), .val (.ref b19), .unset, .unset] [(.int (0 : Int32)), (.int (2 : Int32)), (.ref b19)])) _
        refine XS.imul X19.here hx rfl (hb hby at_141) rfl ?_
        show Steps p.tables e below (T19.setTop (mkF m 142 #[.val (.int i1), .val (.int i2), .val (.int i3), .val (.int i4), .val (.int i5), .val (.int (0 : Int32)), .val (.int (1 : Int32)), .val (.int (1 : Int32)), .val (.int (i1 &&& (65535 : Int32))), .val (.int (i2 &&& (65535 : Int32))), .val (.int (i3 &&& (65535 : Int32))), .val (.ref b19), .unset, .unset] [(.int (0 : Int32)), (.ref b19)])) _
        refine XS.iloadN X19.here hx rfl (hb hby at_142) rfl ?_
        show Steps p.tables e below (T19.setTop (mkF m 143 #[.val (.int i1), .val (.int i2), .val (.int i3), .val (.int i4), .val (.int i5), .val (.int (0 : Int32)), .val (.int (1 : Int32)), .val (.int (1 : Int32)), .val (.int (i1 &&& (65535 : Int32))), .val (.int (i2 &&& (65535 : Int32))), .val (.int (i3 &&& (65535 : Int32))), .val (.ref b19), .unset, .unset] [(.int i4), (.int (0 : Int32)), (.ref b19)])) _
        refine XS.i2b X19.here hx rfl (hb hby at_143) rfl ?_
        show Steps p.tables e below (T19.setTop (mkF m 144 #[.val (.int i1), .val (.int i2), .val (.int i3), .val (.int i4), .val (.int i5), .val (.int (0 : Int32)), .val (.int (1 : Int32)), .val (.int (1 : Int32)), .val (.int (i1 &&& (65535 : Int32))), .val (.int (i2 &&& (65535 : Int32))), .val (.int (i3 &&& (65535 : Int32))), .val (.ref b19), .unset, .unset] [(.int (i4.toInt8.toInt32)), (.int (0 : Int32)), (.ref b19)])) _
        refine st21 _ ?_
        show Steps p.tables e below (T21.setTop (mkF m 145 #[.val (.int i1), .val (.int i2), .val (.int i3), .val (.int i4), .val (.int i5), .val (.int (0 : Int32)), .val (.int (1 : Int32)), .val (.int (1 : Int32)), .val (.int (i1 &&& (65535 : Int32))), .val (.int (i2 &&& (65535 : Int32))), .val (.int (i3 &&& (65535 : Int32))), .val (.ref b19), .unset, .unset] [])) _
        refine XS.aload X21.here hx rfl (hb hby at_145) rfl rfl ?_
        show Steps p.tables e below (T21.setTop (mkF m 147 #[.val (.int i1), .val (.int i2), .val (.int i3), .val (.int i4), .val (.int i5), .val (.int (0 : Int32)), .val (.int (1 : Int32)), .val (.int (1 : Int32)), .val (.int (i1 &&& (65535 : Int32))), .val (.int (i2 &&& (65535 : Int32))), .val (.int (i3 &&& (65535 : Int32))), .val (.ref b19), .unset, .unset] [(.ref b19)])) _
        refine st23 _ ?_
        show Steps p.tables e below (T23.setTop (mkF m 150 #[.val (.int i1), .val (.int i2), .val (.int i3), .val (.int i4), .val (.int i5), .val (.int (0 : Int32)), .val (.int (1 : Int32)), .val (.int (1 : Int32)), .val (.int (i1 &&& (65535 : Int32))), .val (.int (i2 &&& (65535 : Int32))), .val (.int (i3 &&& (65535 : Int32))), .val (.ref b19), .unset, .unset] [(.ref b23_0)])) _
        refine XS.astore X23.here hx rfl (hb hby at_150) rfl rfl (l' := #[.val (.int i1), .val (.int i2), .val (.int i3), .val (.int i4), .val (.int i5), .val (.int (0 : Int32)), .val (.int (1 : Int32)), .val (.int (1 : Int32)), .val (.int (i1 &&& (65535 : Int32))), .val (.int (i2 &&& (65535 : Int32))), .val (.int (i3 &&& (65535 : Int32))), .val (.ref b19), .val (.ref b23_0), .unset]) rfl ?_
        show Steps p.tables e below (T23.setTop (mkF m 152 #[.val (.int i1), .val (.int i2), .val (.int i3), .val (.int i4), .val (.int i5), .val (.int (0 : Int32)), .val (.int (1 : Int32)), .val (.int (1 : Int32)), .val (.int (i1 &&& (65535 : Int32))), .val (.int (i2 &&& (65535 : Int32))), .val (.int (i3 &&& (65535 : Int32))), .val (.ref b19), .val (.ref b23_0), .unset] [])) _
        refine XS.aload X23.here hx rfl (hb hby at_152) rfl rfl ?_
        show Steps p.tables e below (T23.setTop (mkF m 154 #[.val (.int i1), .val (.int i2), .val (.int i3), .val (.int i4), .val (.int i5), .val (.int (0 : Int32)), .val (.int (1 : Int32)), .val (.int (1 : Int32)), .val (.int (i1 &&& (65535 : Int32))), .val (.int (i2 &&& (65535 : Int32))), .val (.int (i3 &&& (65535 : Int32))), .val (.ref b19), .val (.ref b23_0), .unset] [(.ref b23_0)])) _
        refine X23.arraylength hx (by exact Ar25.1) (State.isArrayOf_alike hZ.alike Ar25.2.1) (g := (mkF m 154 #[.val (.int i1), .val (.int i2), .val (.int i3), .val (.int i4), .val (.int i5), .val (.int (0 : Int32)), .val (.int (1 : Int32)), .val (.int (1 : Int32)), .val (.int (i1 &&& (65535 : Int32))), .val (.int (i2 &&& (65535 : Int32))), .val (.int (i3 &&& (65535 : Int32))), .val (.ref b19), .val (.ref b23_0), .unset] [(.ref b23_0)])) rfl rfl (hb hby at_154) _ ?_
        rw [len_of Sz25 Nn25]
        show Steps p.tables e below (T23.setTop (mkF m 155 #[.val (.int i1), .val (.int i2), .val (.int i3), .val (.int i4), .val (.int i5), .val (.int (0 : Int32)), .val (.int (1 : Int32)), .val (.int (1 : Int32)), .val (.int (i1 &&& (65535 : Int32))), .val (.int (i2 &&& (65535 : Int32))), .val (.int (i3 &&& (65535 : Int32))), .val (.ref b19), .val (.ref b23_0), .unset] [(.int (0 : Int32))])) _
        refine XS.iload X23.here hx rfl (hb hby at_155) rfl ?_
        show Steps p.tables e below (T23.setTop (mkF m 157 #[.val (.int i1), .val (.int i2), .val (.int i3), .val (.int i4), .val (.int i5), .val (.int (0 : Int32)), .val (.int (1 : Int32)), .val (.int (1 : Int32)), .val (.int (i1 &&& (65535 : Int32))), .val (.int (i2 &&& (65535 : Int32))), .val (.int (i3 &&& (65535 : Int32))), .val (.ref b19), .val (.ref b23_0), .unset] [(.int (0 : Int32)), (.int (0 : Int32))])) _
        refine XS.icmpYes X23.here hx rfl (pc0 := 157) (pc' := 162) rfl (hb hby at_157) rfl (teq (by decide : (0 : Int32) = (0 : Int32))).1 (by decide) (by decide) ?_
        show Steps p.tables e below (T23.setTop (mkF m 162 #[.val (.int i1), .val (.int i2), .val (.int i3), .val (.int i4), .val (.int i5), .val (.int (0 : Int32)), .val (.int (1 : Int32)), .val (.int (1 : Int32)), .val (.int (i1 &&& (65535 : Int32))), .val (.int (i2 &&& (65535 : Int32))), .val (.int (i3 &&& (65535 : Int32))), .val (.ref b19), .val (.ref b23_0), .unset] [])) _
        refine XS.iconst X23.here hx rfl (hb hby at_162) ?_
        show Steps p.tables e below (T23.setTop (mkF m 163 #[.val (.int i1), .val (.int i2), .val (.int i3), .val (.int i4), .val (.int i5), .val (.int (0 : Int32)), .val (.int (1 : Int32)), .val (.int (1 : Int32)), .val (.int (i1 &&& (65535 : Int32))), .val (.int (i2 &&& (65535 : Int32))), .val (.int (i3 &&& (65535 : Int32))), .val (.ref b19), .val (.ref b23_0), .unset] [(.int (1 : Int32))])) _
        refine XS.istore X23.here hx rfl (hb hby at_163) rfl (l' := #[.val (.int i1), .val (.int i2), .val (.int i3), .val (.int i4), .val (.int i5), .val (.int (0 : Int32)), .val (.int (1 : Int32)), .val (.int (1 : Int32)), .val (.int (i1 &&& (65535 : Int32))), .val (.int (i2 &&& (65535 : Int32))), .val (.int (i3 &&& (65535 : Int32))), .val (.ref b19), .val (.ref b23_0), .val (.int (1 : Int32))]) rfl ?_
        show Steps p.tables e below (T23.setTop (mkF m 165 #[.val (.int i1), .val (.int i2), .val (.int i3), .val (.int i4), .val (.int i5), .val (.int (0 : Int32)), .val (.int (1 : Int32)), .val (.int (1 : Int32)), .val (.int (i1 &&& (65535 : Int32))), .val (.int (i2 &&& (65535 : Int32))), .val (.int (i3 &&& (65535 : Int32))), .val (.ref b19), .val (.ref b23_0), .val (.int (1 : Int32))] [])) _
        refine XS.iload X23.here hx rfl (hb hby at_165) rfl ?_
        show Steps p.tables e below (T23.setTop (mkF m 167 #[.val (.int i1), .val (.int i2), .val (.int i3), .val (.int i4), .val (.int i5), .val (.int (0 : Int32)), .val (.int (1 : Int32)), .val (.int (1 : Int32)), .val (.int (i1 &&& (65535 : Int32))), .val (.int (i2 &&& (65535 : Int32))), .val (.int (i3 &&& (65535 : Int32))), .val (.ref b19), .val (.ref b23_0), .val (.int (1 : Int32))] [(.int (0 : Int32))])) _
        refine XS.ifYes X23.here hx rfl (pc0 := 167) (pc' := 191) rfl (hb hby at_167) rfl ((if0 _ _).trans (flt (by decide : ¬ ((0 : Int32) < (0 : Int32)))).2.2.2) (by decide) (by decide) ?_
        show Steps p.tables e below (T23.setTop (mkF m 191 #[.val (.int i1), .val (.int i2), .val (.int i3), .val (.int i4), .val (.int i5), .val (.int (0 : Int32)), .val (.int (1 : Int32)), .val (.int (1 : Int32)), .val (.int (i1 &&& (65535 : Int32))), .val (.int (i2 &&& (65535 : Int32))), .val (.int (i3 &&& (65535 : Int32))), .val (.ref b19), .val (.ref b23_0), .val (.int (1 : Int32))] [])) _
        refine XS.iload X23.here hx rfl (hb hby at_191) rfl ?_
        show Steps p.tables e below (T23.setTop (mkF m 193 #[.val (.int i1), .val (.int i2), .val (.int i3), .val (.int i4), .val (.int i5), .val (.int (0 : Int32)), .val (.int (1 : Int32)), .val (.int (1 : Int32)), .val (.int (i1 &&& (65535 : Int32))), .val (.int (i2 &&& (65535 : Int32))), .val (.int (i3 &&& (65535 : Int32))), .val (.ref b19), .val (.ref b23_0), .val (.int (1 : Int32))] [(.int (0 : Int32))])) _
        refine XS.iconst X23.here hx rfl (hb hby at_193) ?_
        show Steps p.tables e below (T23.setTop (mkF m 194 #[.val (.int i1), .val (.int i2), .val (.int i3), .val (.int i4), .val (.int i5), .val (.int (0 : Int32)), .val (.int (1 : Int32)), .val (.int (1 : Int32)), .val (.int (i1 &&& (65535 : Int32))), .val (.int (i2 &&& (65535 : Int32))), .val (.int (i3 &&& (65535 : Int32))), .val (.ref b19), .val (.ref b23_0), .val (.int (1 : Int32))] [(.int (1 : Int32)), (.int (0 : Int32))])) _
        refine XS.icmpYes X23.here hx rfl (pc0 := 194) (pc' := 218) rfl (hb hby at_194) rfl (flt (by decide : ¬ ((1 : Int32) < (0 : Int32)))).2.2.2 (by decide) (by decide) ?_
        show Steps p.tables e below (T23.setTop (mkF m 218 #[.val (.int i1), .val (.int i2), .val (.int i3), .val (.int i4), .val (.int i5), .val (.int (0 : Int32)), .val (.int (1 : Int32)), .val (.int (1 : Int32)), .val (.int (i1 &&& (65535 : Int32))), .val (.int (i2 &&& (65535 : Int32))), .val (.int (i3 &&& (65535 : Int32))), .val (.ref b19), .val (.ref b23_0), .val (.int (1 : Int32))] [])) _
        refine XS.iload X23.here hx rfl (hb hby at_218) rfl ?_
        show Steps p.tables e below (T23.setTop (mkF m 220 #[.val (.int i1), .val (.int i2), .val (.int i3), .val (.int i4), .val (.int i5), .val (.int (0 : Int32)), .val (.int (1 : Int32)), .val (.int (1 : Int32)), .val (.int (i1 &&& (65535 : Int32))), .val (.int (i2 &&& (65535 : Int32))), .val (.int (i3 &&& (65535 : Int32))), .val (.ref b19), .val (.ref b23_0), .val (.int (1 : Int32))] [(.int (0 : Int32))])) _
        refine XS.iconst X23.here hx rfl (hb hby at_220) ?_
        show Steps p.tables e below (T23.setTop (mkF m 221 #[.val (.int i1), .val (.int i2), .val (.int i3), .val (.int i4), .val (.int i5), .val (.int (0 : Int32)), .val (.int (1 : Int32)), .val (.int (1 : Int32)), .val (.int (i1 &&& (65535 : Int32))), .val (.int (i2 &&& (65535 : Int32))), .val (.int (i3 &&& (65535 : Int32))), .val (.ref b19), .val (.ref b23_0), .val (.int (1 : Int32))] [(.int (2 : Int32)), (.int (0 : Int32))])) _
        refine XS.icmpYes X23.here hx rfl (pc0 := 221) (pc' := 245) rfl (hb hby at_221) rfl (flt (by decide : ¬ ((2 : Int32) < (0 : Int32)))).2.2.2 (by decide) (by decide) ?_
        show Steps p.tables e below (T23.setTop (mkF m 245 #[.val (.int i1), .val (.int i2), .val (.int i3), .val (.int i4), .val (.int i5), .val (.int (0 : Int32)), .val (.int (1 : Int32)), .val (.int (1 : Int32)), .val (.int (i1 &&& (65535 : Int32))), .val (.int (i2 &&& (65535 : Int32))), .val (.int (i3 &&& (65535 : Int32))), .val (.ref b19), .val (.ref b23_0), .val (.int (1 : Int32))] [])) _
        refine XS.iload X23.here hx rfl (hb hby at_245) rfl ?_
        exact k
      obtain ⟨fs, hr, hrun, hended, hW, hsame⟩ := X23.leave (v := some (.int (1 : Int32))) (fun h => by rw [Bd.returns] at h; cases h)
      refine ⟨_, _, pre26 _ ?_, hrun, hended, _, _, rfl, ?_, ⟨_, rfl⟩, hW, hsame.mono (by decide) (by decide)⟩
      · show Steps p.tables e below (T23.setTop (mkF m 247 #[.val (.int i1), .val (.int i2), .val (.int i3), .val (.int i4), .val (.int i5), .val (.int (0 : Int32)), .val (.int (1 : Int32)), .val (.int (1 : Int32)), .val (.int (i1 &&& (65535 : Int32))), .val (.int (i2 &&& (65535 : Int32))), .val (.int (i3 &&& (65535 : Int32))), .val (.ref b19), .val (.ref b23_0), .val (.int (1 : Int32))] [(.int (1 : Int32))])) _
        exact retN X23 hx (t := .boolean) Bd.returns (by simp) (hb hby at_247) hr
      · show Q0 Z i1 i2 i3 i4 i5 h0 n0 _ T23.heap _
        exact ⟨congrArg (fun z => some (Value.int z)) (show (own_r0 i1 i2 i3 i5) = (1 : Int32) from ((if_pos hk2).trans (if_neg (by rw [hk10]; decide)))).symm, N23⟩
  · have pre27 : ∀ t, Steps p.tables e below (s₁.setTop (mkF m 6 #[.val (.int i1), .val (.int i2), .val (.int i3), .val (.int i4), .val (.int i5), .val (.int (1 : Int32)), .unset, .unset, .unset, .unset, .unset, .unset, .unset, .unset] [])) t → Steps p.tables e below (s₁.setTop (entryFrame m #[(.int i1), (.int i2), (.int i3), (.int i4), (.int i5)] maxLocals)) t := fun t k => pre1 t (by rw [hk2]; exact k)
    have pre28 : ∀ t, Steps p.tables e below (s₁.setTop (mkF m 12 #[.val (.int i1), .val (.int i2), .val (.int i3), .val (.int i4), .val (.int i5), .val (.int (1 : Int32)), .unset, .unset, .unset, .unset, .unset, .unset, .unset, .unset] [(.int (((i5.toUInt32 >>> ((2 : Int32) &&& 31).toUInt32).toInt32) &&& (1 : Int32)))])) t → Steps p.tables e below (s₁.setTop (entryFrame m #[(.int i1), (.int i2), (.int i3), (.int i4), (.int i5)] maxLocals)) t := by
      intro t k
      refine pre27 _ ?_
      show Steps p.tables e below (s₁.setTop (mkF m 6 #[.val (.int i1), .val (.int i2), .val (.int i3), .val (.int i4), .val (.int i5), .val (.int (1 : Int32)), .unset, .unset, .unset, .unset, .unset, .unset, .unset, .unset] [])) _
      refine XS.iload X0.here hx rfl (hb hby at_6) rfl ?_
      show Steps p.tables e below (s₁.setTop (mkF m 8 #[.val (.int i1), .val (.int i2), .val (.int i3), .val (.int i4), .val (.int i5), .val (.int (1 : Int32)), .unset, .unset, .unset, .unset, .unset, .unset, .unset, .unset] [(.int i5)])) _
      refine XS.iconst X0.here hx rfl (hb hby at_8) ?_
      show Steps p.tables e below (s₁.setTop (mkF m 9 #[.val (.int i1), .val (.int i2), .val (.int i3), .val (.int i4), .val (.int i5), .val (.int (1 : Int32)), .unset, .unset, .unset, .unset, .unset, .unset, .unset, .unset] [(.int (2 : Int32)), (.int i5)])) _
      refine XS.iushr X0.here hx rfl (hb hby at_9) rfl ?_
      show Steps p.tables e below (s₁.setTop (mkF m 10 #[.val (.int i1), .val (.int i2), .val (.int i3), .val (.int i4), .val (.int i5), .val (.int (1 : Int32)), .unset, .unset, .unset, .unset, .unset, .unset, .unset, .unset] [(.int ((i5.toUInt32 >>> ((2 : Int32) &&& 31).toUInt32).toInt32))])) _
      refine XS.iconst X0.here hx rfl (hb hby at_10) ?_
      show Steps p.tables e below (s₁.setTop (mkF m 11 #[.val (.int i1), .val (.int i2), .val (.int i3), .val (.int i4), .val (.int i5), .val (.int (1 : Int32)), .unset, .unset, .unset, .unset, .unset, .unset, .unset, .unset] [(.int (1 : Int32)), (.int ((i5.toUInt32 >>> ((2 : Int32) &&& 31).toUInt32).toInt32))])) _
      refine XS.iand X0.here hx rfl (hb hby at_11) rfl ?_
      exact k
    have pre32 : ∀ t, Steps p.tables e below (s₁.setTop (mkF m 20 #[.val (.int i1), .val (.int i2), .val (.int i3), .val (.int i4), .val (.int i5), .val (.int (1 : Int32)), .unset, .unset, .unset, .unset, .unset, .unset, .unset, .unset] [(.int (own_j0_12_0 i5))])) t → Steps p.tables e below (s₁.setTop (entryFrame m #[(.int i1), (.int i2), (.int i3), (.int i4), (.int i5)] maxLocals)) t := by
      by_cases hc12_29 : (((i5.toUInt32 >>> ((2 : Int32) &&& 31).toUInt32).toInt32) &&& (1 : Int32)) = (0 : Int32)
      · have pre30 : ∀ t, Steps p.tables e below (s₁.setTop (mkF m 20 #[.val (.int i1), .val (.int i2), .val (.int i3), .val (.int i4), .val (.int i5), .val (.int (1 : Int32)), .unset, .unset, .unset, .unset, .unset, .unset, .unset, .unset] [(.int (0 : Int32))])) t → Steps p.tables e below (s₁.setTop (entryFrame m #[(.int i1), (.int i2), (.int i3), (.int i4), (.int i5)] maxLocals)) t := by
          intro t k
          refine pre28 _ ?_
          show Steps p.tables e below (s₁.setTop (mkF m 12 #[.val (.int i1), .val (.int i2), .val (.int i3), .val (.int i4), .val (.int i5), .val (.int (1 : Int32)), .unset, .unset, .unset, .unset, .unset, .unset, .unset, .unset] [(.int (((i5.toUInt32 >>> ((2 : Int32) &&& 31).toUInt32).toInt32) &&& (1 : Int32)))])) _
          refine XS.ifYes X0.here hx rfl (pc0 := 12) (pc' := 19) rfl (hb hby at_12) rfl ((if0 _ _).trans (teq hc12_29).1) (by decide) (by decide) ?_
          show Steps p.tables e below (s₁.setTop (mkF m 19 #[.val (.int i1), .val (.int i2), .val (.int i3), .val (.int i4), .val (.int i5), .val (.int (1 : Int32)), .unset, .unset, .unset, .unset, .unset, .unset, .unset, .unset] [])) _
          refine XS.iconst X0.here hx rfl (hb hby at_19) ?_
          exact k
        exact fun t k => pre30 t (by rw [show (own_j0_12_0 i5) = (0 : Int32) from (if_pos hc12_29)] at k; exact k)
      · have pre31 : ∀ t, Steps p.tables e below (s₁.setTop (mkF m 20 #[.val (.int i1), .val (.int i2), .val (.int i3), .val (.int i4), .val (.int i5), .val (.int (1 : Int32)), .unset, .unset, .unset, .unset, .unset, .unset, .unset, .unset] [(.int (1 : Int32))])) t → Steps p.tables e below (s₁.setTop (entryFrame m #[(.int i1), (.int i2), (.int i3), (.int i4), (.int i5)] maxLocals)) t := by
          intro t k
          refine pre28 _ ?_
          show Steps p.tables e below (s₁.setTop (mkF m 12 #[.val (.int i1), .val (.int i2), .val (.int i3), .val (.int i4), .val (.int i5), .val (.int (1 : Int32)), .unset, .unset, .unset, .unset, .unset, .unset, .unset, .unset] [(.int (((i5.toUInt32 >>> ((2 : Int32) &&& 31).toUInt32).toInt32) &&& (1 : Int32)))])) _
          refine XS.ifNo X0.here hx rfl (hb hby at_12) rfl ((if0 _ _).trans (feq hc12_29).1) ?_
          show Steps p.tables e below (s₁.setTop (mkF m 15 #[.val (.int i1), .val (.int i2), .val (.int i3), .val (.int i4), .val (.int i5), .val (.int (1 : Int32)), .unset, .unset, .unset, .unset, .unset, .unset, .unset, .unset] [])) _
          refine XS.iconst X0.here hx rfl (hb hby at_15) ?_
          show Steps p.tables e below (s₁.setTop (mkF m 16 #[.val (.int i1), .val (.int i2), .val (.int i3), .val (.int i4), .val (.int i5), .val (.int (1 : Int32)), .unset, .unset, .unset, .unset, .unset, .unset, .unset, .unset] [(.int (1 : Int32))])) _
          refine XS.goto X0.here hx rfl (pc0 := 16) (pc' := 20) rfl (hb hby at_16) (by decide) (by decide) ?_
          exact k
        exact fun t k => pre31 t (by rw [show (own_j0_12_0 i5) = (1 : Int32) from (if_neg hc12_29)] at k; exact k)
    have pre33 : ∀ t, Steps p.tables e below (s₁.setTop (mkF m 22 #[.val (.int i1), .val (.int i2), .val (.int i3), .val (.int i4), .val (.int i5), .val (.int (1 : Int32)), .val (.int (own_j0_12_0 i5)), .unset, .unset, .unset, .unset, .unset, .unset, .unset] [])) t → Steps p.tables e below (s₁.setTop (entryFrame m #[(.int i1), (.int i2), (.int i3), (.int i4), (.int i5)] maxLocals)) t := by
      intro t k
      refine pre32 _ ?_
      show Steps p.tables e below (s₁.setTop (mkF m 20 #[.val (.int i1), .val (.int i2), .val (.int i3), .val (.int i4), .val (.int i5), .val (.int (1 : Int32)), .unset, .unset, .unset, .unset, .unset, .unset, .unset, .unset] [(.int (own_j0_12_0 i5))])) _
      refine XS.istore X0.here hx rfl (hb hby at_20) rfl (l' := #[.val (.int i1), .val (.int i2), .val (.int i3), .val (.int i4), .val (.int i5), .val (.int (1 : Int32)), .val (.int (own_j0_12_0 i5)), .unset, .unset, .unset, .unset, .unset, .unset, .unset]) rfl ?_
      exact k
    rcases ((own_ob0_odd i5) : (own_j0_12_0 i5) = (0 : Int32) ∨ (own_j0_12_0 i5) = (1 : Int32)) with hk34 | hk34
    · have pre35 : ∀ t, Steps p.tables e below (s₁.setTop (mkF m 22 #[.val (.int i1), .val (.int i2), .val (.int i3), .val (.int i4), .val (.int i5), .val (.int (1 : Int32)), .val (.int (0 : Int32)), .unset, .unset, .unset, .unset, .unset, .unset, .unset] [])) t → Steps p.tables e below (s₁.setTop (entryFrame m #[(.int i1), (.int i2), (.int i3), (.int i4), (.int i5)] maxLocals)) t := fun t k => pre33 t (by rw [hk34]; exact k)
      obtain ⟨T36, h36, k36, X36, e36, E36, A36, st36⟩ := newP X0 hx hZ (hw _ (List.mem_of_getElem? (i := 1) rfl)) e0 (g := (mkF m 59 #[.val (.int i1), .val (.int i2), .val (.int i3), .val (.int i4), .val (.int i5), .val (.int (1 : Int32)), .val (.int (0 : Int32)), .val (.int (2 : Int32)), .val (.int (i1 &&& (65535 : Int32))), .val (.int (i2 &&& (65535 : Int32))), .val (.int (i3 &&& (65535 : Int32))), .unset, .unset, .unset] [(.int (2 : Int32))])) rfl (hb hby at_59) rfl (by decide) (cap := 2) (by decide) (by decide) (by decide) (by decide)
      obtain ⟨b36, g36⟩ : ∃ z, z = h0.size := ⟨_, rfl⟩
      rw [← g36] at A36 st36
      have sz_b36 : h0.size ≤ b36 := Nat.le_trans (Keep.refl h0 []).1 (Nat.le_of_eq g36.symm)
      have K37 : Keep h0 h36 [] := (Keep.refl h0 []).ext E36
      have V36 : Arv Z h36 b36 k36 .byte (2 : Int32) [(.int (0 : Int32)), (.int (0 : Int32))] (.int (0 : Int32)) := (Arv.new A36 (by decide)).pad (pad_rep [] (.int (0 : Int32)) 2)
      obtain ⟨cl38, Ar38, Cq38, Sz38, Nn38, Hh38, Gg38⟩ := id V36
      have hin38 : ¬ ((0 : Int32) < 0 ∨ cl38.slots.size ≤ ((0 : Int32)).toNatClampNeg) := inb_of Sz38 ⟨by decide, by decide⟩
      obtain ⟨T38, h38, X38, e38, W38, st38⟩ := stB X36 hx hZ e36 Ar38 (j := (0 : Int32)) hin38 (g := (mkF m 77 #[.val (.int i1), .val (.int i2), .val (.int i3), .val (.int i4), .val (.int i5), .val (.int (1 : Int32)), .val (.int (0 : Int32)), .val (.int (2 : Int32)), .val (.int (i1 &&& (65535 : Int32))), .val (.int (i2 &&& (65535 : Int32))), .val (.int (i3 &&& (65535 : Int32))), .val (.ref b36), .unset, .unset] [(.int ((((i1 &&& (65535 : Int32)).toUInt32 >>> ((8 : Int32) &&& 31).toUInt32).toInt32).toInt8.toInt32)), (.int (0 : Int32)), (.ref b36)])) rfl rfl (hb hby at_77)
      have V38 : Arv Z h38 b36 k36 .byte (2 : Int32) [(.int (nar .byte ((((i1 &&& (65535 : Int32)).toUInt32 >>> ((8 : Int32) &&& 31).toUInt32).toInt32).toInt8.toInt32))), (.int (0 : Int32))] (.int (0 : Int32)) := Arv.set Ar38 Cq38 Sz38 Nn38 Hh38 Gg38 (fits_nar_byte _) W38 0 rfl (Nat.le_of_ble_eq_true rfl)
      have N38 := Fr.snoc X38 N0 (Nat.le_trans Z0 sz_b36)
      have K39 : Keep h0 h38 [] := K37.wr W38 (Or.inr sz_b36)
      obtain ⟨cl40, Ar40, Cq40, Sz40, Nn40, Hh40, Gg40⟩ := id V38
      have hin40 : ¬ ((1 : Int32) < 0 ∨ cl40.slots.size ≤ ((1 : Int32)).toNatClampNeg) := inb_of Sz40 ⟨by decide, by decide⟩
      obtain ⟨T40, h40, X40, e40, W40, st40⟩ := stB X38 hx hZ e38 Ar40 (j := (1 : Int32)) hin40 (g := (mkF m 84 #[.val (.int i1), .val (.int i2), .val (.int i3), .val (.int i4), .val (.int i5), .val (.int (1 : Int32)), .val (.int (0 : Int32)), .val (.int (2 : Int32)), .val (.int (i1 &&& (65535 : Int32))), .val (.int (i2 &&& (65535 : Int32))), .val (.int (i3 &&& (65535 : Int32))), .val (.ref b36), .unset, .unset] [(.int ((i1 &&& (65535 : Int32)).toInt8.toInt32)), (.int (1 : Int32)), (.ref b36)])) rfl rfl (hb hby at_84)
      have V40 : Arv Z h40 b36 k36 .byte (2 : Int32) [(.int (nar .byte ((((i1 &&& (65535 : Int32)).toUInt32 >>> ((8 : Int32) &&& 31).toUInt32).toInt32).toInt8.toInt32))), (.int (nar .byte ((i1 &&& (65535 : Int32)).toInt8.toInt32)))] (.int (0 : Int32)) := Arv.set Ar40 Cq40 Sz40 Nn40 Hh40 Gg40 (fits_nar_byte _) W40 1 rfl (Nat.le_of_ble_eq_true rfl)
      have N40 := Fr.snoc X40 N38 (Nat.le_trans Z0 sz_b36)
      have K41 : Keep h0 h40 [] := K39.wr W40 (Or.inr sz_b36)
      obtain ⟨_, _, ⟨T42, L42, k42, n42⟩, -, X42, ⟨Lc42, hQ42, l42, y42, z42⟩, st42⟩ := Jvm.LawKit.callS X40 hx (y := (⟨"com/example/aschenputtel/aschenputtel/values/UcaWeights", "keyCharacters", "([B)[C"⟩ : MethodName)) hown (mvT hZ (hw _ (List.mem_of_getElem? (i := 2) rfl))) (mvT hZ (hw _ (List.mem_of_getElem? (i := 3) rfl))) (mvT hZ (hw _ (List.mem_of_getElem? (i := 4) rfl))) (mvT hZ (hw _ (List.mem_of_getElem? (i := 5) rfl))) (by decide) (backOf (W := 0) (rm1b l Z a0 hw [] b36 (nar .byte ((((i1 &&& (65535 : Int32)).toUInt32 >>> ((8 : Int32) &&& 31).toUInt32).toInt32).toInt8.toInt32)) (nar .byte ((i1 &&& (65535 : Int32)).toInt8.toInt32)) k36 h40 n0 (Nat.le_trans Z0 K41.1) V40) hZ (hw _ (List.mem_of_getElem? (i := 5) rfl)) (hw _ (List.mem_of_getElem? (i := 4) rfl)) (by decide) (by decide)) (g := (mkF m 147 #[.val (.int i1), .val (.int i2), .val (.int i3), .val (.int i4), .val (.int i5), .val (.int (1 : Int32)), .val (.int (0 : Int32)), .val (.int (2 : Int32)), .val (.int (i1 &&& (65535 : Int32))), .val (.int (i2 &&& (65535 : Int32))), .val (.int (i3 &&& (65535 : Int32))), .val (.ref b36), .unset, .unset] [(.ref b36)])) rfl (by rw [hml]; rfl) (argsL := [(.ref b36)]) (rest := []) (lenOf pd_0 rfl) rfl (by show 2 * 0 + _ ≤ _; exact Nat.le_of_eq rfl) (hb hby at_147) (fun _ _ => ⟨rfl, e40, (by decide : 1 + 1 ≤ _), (by decide : 2 + 1 ≤ _)⟩)
      dsimp only [Pt.U, Pt.locs, Pt.cells, Pt.slots] at X42 l42 y42 z42 st42 hQ42
      subst l42 y42 z42
      obtain ⟨b42_0, k42_1, rfl, Nq42, Kq42, sq42_0, f42_0⟩ := hQ42
      have sz_b42_0 : h0.size ≤ b42_0 := Nat.le_trans K41.1 sq42_0
      have K43 : Keep h0 T42.heap [] := K41.trans Kq42 all0
      have N42 := Fr.app N40 Nq42
      obtain ⟨cl44, Ar44, -, Sz44, Nn44, -, -⟩ := id f42_0
      obtain ⟨cl45, Ar45, Cq45, Sz45, Nn45, Hh45, Gg45⟩ := id f42_0
      have hin45 : ¬ ((0 : Int32) < 0 ∨ cl45.slots.size ≤ ((0 : Int32)).toNatClampNeg) := inb_of Sz45 ⟨by decide, by decide⟩
      have hat45 : cl45.slots[((0 : Int32)).toNatClampNeg]? = some (.int (nar .char (((((nar .byte ((((i1 &&& (65535 : Int32)).toUInt32 >>> ((8 : Int32) &&& 31).toUInt32).toInt32).toInt8.toInt32)) &&& (255 : Int32)) <<< ((8 : Int32) &&& 31)) ||| ((nar .byte ((i1 &&& (65535 : Int32)).toInt8.toInt32)) &&& (255 : Int32))).toUInt32.toUInt16.toUInt32.toInt32))) := Hh45.at hin45 rfl
      have pre46 : ∀ t, Steps p.tables e below (T42.setTop (mkF m 181 #[.val (.int i1), .val (.int i2), .val (.int i3), .val (.int i4), .val (.int i5), .val (.int (1 : Int32)), .val (.int (0 : Int32)), .val (.int (2 : Int32)), .val (.int (i1 &&& (65535 : Int32))), .val (.int (i2 &&& (65535 : Int32))), .val (.int (i3 &&& (65535 : Int32))), .val (.ref b36), .val (.ref b42_0), .val (.int (1 : Int32))] [(.int (i1 &&& (65535 : Int32))), (.int (nar .char (((((nar .byte ((((i1 &&& (65535 : Int32)).toUInt32 >>> ((8 : Int32) &&& 31).toUInt32).toInt32).toInt8.toInt32)) &&& (255 : Int32)) <<< ((8 : Int32) &&& 31)) ||| ((nar .byte ((i1 &&& (65535 : Int32)).toInt8.toInt32)) &&& (255 : Int32))).toUInt32.toUInt16.toUInt32.toInt32)))])) t → Steps p.tables e below (s₁.setTop (entryFrame m #[(.int i1), (.int i2), (.int i3), (.int i4), (.int i5)] maxLocals)) t := by
        intro t k
        refine pre35 _ ?_
        show Steps p.tables e below (s₁.setTop (mkF m 22 #[.val (.int i1), .val (.int i2), .val (.int i3), .val (.int i4), .val (.int i5), .val (.int (1 : Int32)), .val (.int (0 : Int32)), .unset, .unset, .unset, .unset, .unset, .unset, .unset] [])) _
        refine XS.iconst X0.here hx rfl (hb hby at_22) ?_
        show Steps p.tables e below (s₁.setTop (mkF m 23 #[.val (.int i1), .val (.int i2), .val (.int i3), .val (.int i4), .val (.int i5), .val (.int (1 : Int32)), .val (.int (0 : Int32)), .unset, .unset, .unset, .unset, .unset, .unset, .unset] [(.int (2 : Int32))])) _
        refine XS.iload X0.here hx rfl (hb hby at_23) rfl ?_
        show Steps p.tables e below (s₁.setTop (mkF m 25 #[.val (.int i1), .val (.int i2), .val (.int i3), .val (.int i4), .val (.int i5), .val (.int (1 : Int32)), .val (.int (0 : Int32)), .unset, .unset, .unset, .unset, .unset, .unset, .unset] [(.int (1 : Int32)), (.int (2 : Int32))])) _
        refine XS.imul X0.here hx rfl (hb hby at_25) rfl ?_
        show Steps p.tables e below (s₁.setTop (mkF m 26 #[.val (.int i1), .val (.int i2), .val (.int i3), .val (.int i4), .val (.int i5), .val (.int (1 : Int32)), .val (.int (0 : Int32)), .unset, .unset, .unset, .unset, .unset, .unset, .unset] [(.int (2 : Int32))])) _
        refine XS.iload X0.here hx rfl (hb hby at_26) rfl ?_
        show Steps p.tables e below (s₁.setTop (mkF m 28 #[.val (.int i1), .val (.int i2), .val (.int i3), .val (.int i4), .val (.int i5), .val (.int (1 : Int32)), .val (.int (0 : Int32)), .unset, .unset, .unset, .unset, .unset, .unset, .unset] [(.int (0 : Int32)), (.int (2 : Int32))])) _
        refine XS.ifYes X0.here hx rfl (pc0 := 28) (pc' := 35) rfl (hb hby at_28) rfl ((if0 _ _).trans (teq (by decide : (0 : Int32) = (0 : Int32))).1) (by decide) (by decide) ?_
        show Steps p.tables e below (s₁.setTop (mkF m 35 #[.val (.int i1), .val (.int i2), .val (.int i3), .val (.int i4), .val (.int i5), .val (.int (1 : Int32)), .val (.int (0 : Int32)), .unset, .unset, .unset, .unset, .unset, .unset, .unset] [(.int (2 : Int32))])) _
        refine XS.iconst X0.here hx rfl (hb hby at_35) ?_
        show Steps p.tables e below (s₁.setTop (mkF m 36 #[.val (.int i1), .val (.int i2), .val (.int i3), .val (.int i4), .val (.int i5), .val (.int (1 : Int32)), .val (.int (0 : Int32)), .unset, .unset, .unset, .unset, .unset, .unset, .unset] [(.int (0 : Int32)), (.int (2 : Int32))])) _
        refine XS.iadd X0.here hx rfl (hb hby at_36) rfl ?_
        show Steps p.tables e below (s₁.setTop (mkF m 37 #[.val (.int i1), .val (.int i2), .val (.int i3), .val (.int i4), .val (.int i5), .val (.int (1 : Int32)), .val (.int (0 : Int32)), .unset, .unset, .unset, .unset, .unset, .unset, .unset] [(.int (2 : Int32))])) _
        refine XS.istore X0.here hx rfl (hb hby at_37) rfl (l' := #[.val (.int i1), .val (.int i2), .val (.int i3), .val (.int i4), .val (.int i5), .val (.int (1 : Int32)), .val (.int (0 : Int32)), .val (.int (2 : Int32)), .unset, .unset, .unset, .unset, .unset, .unset]) rfl ?_
        show Steps p.tables e below (s₁.setTop (mkF m 39 #[.val (.int i1), .val (.int i2), .val (.int i3), .val (.int i4), .val (.int i5), .val (.int (1 : Int32)), .val (.int (0 : Int32)), .val (.int (2 : Int32)), .unset, .unset, .unset, .unset, .unset, .unset] [])) _
        refine XS.iloadN X0.here hx rfl (hb hby at_39) rfl ?_
        show Steps p.tables e below (s₁.setTop (mkF m 40 #[.val (.int i1), .val (.int i2), .val (.int i3), .val (.int i4), .val (.int i5), .val (.int (1 : Int32)), .val (.int (0 : Int32)), .val (.int (2 : Int32)), .unset, .unset, .unset, .unset, .unset, .unset] [(.int i1)])) _
        refine X0.ldcInt hx hown (mvT hZ (hw _ (List.mem_of_getElem? (i := 0) rfl))) (g := (mkF m 40 #[.val (.int i1), .val (.int i2), .val (.int i3), .val (.int i4), .val (.int i5), .val (.int (1 : Int32)), .val (.int (0 : Int32)), .val (.int (2 : Int32)), .unset, .unset, .unset, .unset, .unset, .unset] [(.int i1)])) rfl (hb hby at_40) _ ?_
        show Steps p.tables e below (s₁.setTop (mkF m 42 #[.val (.int i1), .val (.int i2), .val (.int i3), .val (.int i4), .val (.int i5), .val (.int (1 : Int32)), .val (.int (0 : Int32)), .val (.int (2 : Int32)), .unset, .unset, .unset, .unset, .unset, .unset] [(.int (65535 : Int32)), (.int i1)])) _
        refine XS.iand X0.here hx rfl (hb hby at_42) rfl ?_
        show Steps p.tables e below (s₁.setTop (mkF m 43 #[.val (.int i1), .val (.int i2), .val (.int i3), .val (.int i4), .val (.int i5), .val (.int (1 : Int32)), .val (.int (0 : Int32)), .val (.int (2 : Int32)), .unset, .unset, .unset, .unset, .unset, .unset] [(.int (i1 &&& (65535 : Int32)))])) _
        refine XS.istore X0.here hx rfl (hb hby at_43) rfl (l' := #[.val (.int i1), .val (.int i2), .val (.int i3), .val (.int i4), .val (.int i5), .val (.int (1 : Int32)), .val (.int (0 : Int32)), .val (.int (2 : Int32)), .val (.int (i1 &&& (65535 : Int32))), .unset, .unset, .unset, .unset, .unset]) rfl ?_
        show Steps p.tables e below (s₁.setTop (mkF m 45 #[.val (.int i1), .val (.int i2), .val (.int i3), .val (.int i4), .val (.int i5), .val (.int (1 : Int32)), .val (.int (0 : Int32)), .val (.int (2 : Int32)), .val (.int (i1 &&& (65535 : Int32))), .unset, .unset, .unset, .unset, .unset] [])) _
        refine XS.iloadN X0.here hx rfl (hb hby at_45) rfl ?_
        show Steps p.tables e below (s₁.setTop (mkF m 46 #[.val (.int i1), .val (.int i2), .val (.int i3), .val (.int i4), .val (.int i5), .val (.int (1 : Int32)), .val (.int (0 : Int32)), .val (.int (2 : Int32)), .val (.int (i1 &&& (65535 : Int32))), .unset, .unset, .unset, .unset, .unset] [(.int i2)])) _
        refine X0.ldcInt hx hown (mvT hZ (hw _ (List.mem_of_getElem? (i := 0) rfl))) (g := (mkF m 46 #[.val (.int i1), .val (.int i2), .val (.int i3), .val (.int i4), .val (.int i5), .val (.int (1 : Int32)), .val (.int (0 : Int32)), .val (.int (2 : Int32)), .val (.int (i1 &&& (65535 : Int32))), .unset, .unset, .unset, .unset, .unset] [(.int i2)])) rfl (hb hby at_46) _ ?_
        show Steps p.tables e below (s₁.setTop (mkF m 48 #[.val (.int i1), .val (.int i2), .val (.int i3), .val (.int i4), .val (.int i5), .val (.int (1 : Int32)), .val (.int (0 : Int32)), .val (.int (2 : Int32)), .val (.int (i1 &&& (65535 : Int32))), .unset, .unset, .unset, .unset, .unset] [(.int (65535 : Int32)), (.int i2)])) _
        refine XS.iand X0.here hx rfl (hb hby at_48) rfl ?_
        show Steps p.tables e below (s₁.setTop (mkF m 49 #[.val (.int i1), .val (.int i2), .val (.int i3), .val (.int i4), .val (.int i5), .val (.int (1 : Int32)), .val (.int (0 : Int32)), .val (.int (2 : Int32)), .val (.int (i1 &&& (65535 : Int32))), .unset, .unset, .unset, .unset, .unset] [(.int (i2 &&& (65535 : Int32)))])) _
        refine XS.istore X0.here hx rfl (hb hby at_49) rfl (l' := #[.val (.int i1), .val (.int i2), .val (.int i3), .val (.int i4), .val (.int i5), .val (.int (1 : Int32)), .val (.int (0 : Int32)), .val (.int (2 : Int32)), .val (.int (i1 &&& (65535 : Int32))), .val (.int (i2 &&& (65535 : Int32))), .unset, .unset, .unset, .unset]) rfl ?_
        show Steps p.tables e below (s₁.setTop (mkF m 51 #[.val (.int i1), .val (.int i2), .val (.int i3), .val (.int i4), .val (.int i5), .val (.int (1 : Int32)), .val (.int (0 : Int32)), .val (.int (2 : Int32)), .val (.int (i1 &&& (65535 : Int32))), .val (.int (i2 &&& (65535 : Int32))), .unset, .unset, .unset, .unset] [])) _
        refine XS.iloadN X0.here hx rfl (hb hby at_51) rfl ?_
        show Steps p.tables e below (s₁.setTop (mkF m 52 #[.val (.int i1), .val (.int i2), .val (.int i3), .val (.int i4), .val (.int i5), .val (.int (1 : Int32)), .val (.int (0 : Int32)), .val (.int (2 : Int32)), .val (.int (i1 &&& (65535 : Int32))), .val (.int (i2 &&& (65535 : Int32))), .unset, .unset, .unset, .unset] [(.int i3)])) _
        refine X0.ldcInt hx hown (mvT hZ (hw _ (List.mem_of_getElem? (i := 0) rfl))) (g := (mkF m 52 #[.val (.int i1), .val (.int i2), .val (.int i3), .val (.int i4), .val (.int i5), .val (.int (1 : Int32)), .val (.int (0 : Int32)), .val (.int (2 : Int32)), .val (.int (i1 &&& (65535 : Int32))), .val (.int (i2 &&& (65535 : Int32))), .unset, .unset, .unset, .unset] [(.int i3)])) rfl (hb hby at_52) _ ?_
        show Steps p.tables e below (s₁.setTop (mkF m 54 #[.val (.int i1), .val (.int i2), .val (.int i3), .val (.int i4), .val (.int i5), .val (.int (1 : Int32)), .val (.int (0 : Int32)), .val (.int (2 : Int32)), .val (.int (i1 &&& (65535 : Int32))), .val (.int (i2 &&& (65535 : Int32))), .unset, .unset, .unset, .unset] [(.int (65535 : Int32)), (.int i3)])) _
        refine XS.iand X0.here hx rfl (hb hby at_54) rfl ?_
        show Steps p.tables e below (s₁.setTop (mkF m 55 #[.val (.int i1), .val (.int i2), .val (.int i3), .val (.int i4), .val (.int i5), .val (.int (1 : Int32)), .val (.int (0 : Int32)), .val (.int (2 : Int32)), .val (.int (i1 &&& (65535 : Int32))), .val (.int (i2 &&& (65535 : Int32))), .unset, .unset, .unset, .unset] [(.int (i3 &&& (65535 : Int32)))])) _
        refine XS.istore X0.here hx rfl (hb hby at_55) rfl (l' := #[.val (.int i1), .val (.int i2), .val (.int i3), .val (.int i4), .val (.int i5), .val (.int (1 : Int32)), .val (.int (0 : Int32)), .val (.int (2 : Int32)), .val (.int (i1 &&& (65535 : Int32))), .val (.int (i2 &&& (65535 : Int32))), .val (.int (i3 &&& (65535 : Int32))), .unset, .unset, .unset]) rfl ?_
        show Steps p.tables e below (s₁.setTop (mkF m 57 #[.val (.int i1), .val (.int i2), .val (.int i3), .val (.int i4), .val (.int i5), .val (.int (1 : Int32)), .val (.int (0 : Int32)), .val (.int (2 : Int32)), .val (.int (i1 &&& (65535 : Int32))), .val (.int (i2 &&& (65535 : Int32))), .val (.int (i3 &&& (65535 : Int32))), .unset, .unset, .unset] [])) _
        refine XS.iload X0.here hx rfl (hb hby at_57) rfl ?_
        show Steps p.tables e below (s₁.setTop (mkF m 59 #[.val (.int i1), .val (.int i2), .val (.int i3), .val (.int i4), .val (.int i5), .val (.int (1 : Int32)), .val (.int (0 : Int32)), .val (.int (2 : Int32)), .val (.int (i1 &&& (65535 : Int32))), .val (.int (i2 &&& (65535 : Int32))), .val (.int (i3 &&& (65535 : Int32))), .unset, .unset, .unset] [(.int (2 : Int32))])) _
        refine st36 _ ?_
        show Steps p.tables e below (T36.setTop (mkF m 61 #[.val (.int i1), .val (.int i2), .val (.int i3), .val (.int i4), .val (.int i5), .val (.int (1 : Int32)), .val (.int (0 : Int32)), .val (.int (2 : Int32)), .val (.int (i1 &&& (65535 : Int32))), .val (.int (i2 &&& (65535 : Int32))), .val (.int (i3 &&& (65535 : Int32))), .unset, .unset, .unset] [(.ref b36)])) _
        refine XS.astore X36.here hx rfl (hb hby at_61) rfl rfl (l' := #[.val (.int i1), .val (.int i2), .val (.int i3), .val (.int i4), .val (.int i5), .val (.int (1 : Int32)), .val (.int (0 : Int32)), .val (.int (2 : Int32)), .val (.int (i1 &&& (65535 : Int32))), .val (.int (i2 &&& (65535 : Int32))), .val (.int (i3 &&& (65535 : Int32))), .val (.ref b36), .unset, .unset]) rfl ?_
        show Steps p.tables e below (T36.setTop (mkF m 63 #[.val (.int i1), .val (.int i2), .val (.int i3), .val (.int i4), .val (.int i5), .val (.int (1 : Int32)), .val (.int (0 : Int32)), .val (.int (2 : Int32)), .val (.int (i1 &&& (65535 : Int32))), .val (.int (i2 &&& (65535 : Int32))), .val (.int (i3 &&& (65535 : Int32))), .val (.ref b36), .unset, .unset] [])) _
        refine XS.iload X36.here hx rfl (hb hby at_63) rfl ?_
        show Steps p.tables e below (T36.setTop (mkF m 65 #[.val (.int i1), .val (.int i2), .val (.int i3), .val (.int i4), .val (.int i5), .val (.int (1 : Int32)), .val (.int (0 : Int32)), .val (.int (2 : Int32)), .val (.int (i1 &&& (65535 : Int32))), .val (.int (i2 &&& (65535 : Int32))), .val (.int (i3 &&& (65535 : Int32))), .val (.ref b36), .unset, .unset] [(.int (1 : Int32))])) _
        refine XS.ifNo X36.here hx rfl (hb hby at_65) rfl ((if0 _ _).trans (tlt (by decide : (0 : Int32) < (1 : Int32))).2.2.2) ?_
        show Steps p.tables e below (T36.setTop (mkF m 68 #[.val (.int i1), .val (.int i2), .val (.int i3), .val (.int i4), .val (.int i5), .val (.int (1 : Int32)), .val (.int (0 : Int32)), .val (.int (2 : Int32)), .val (.int (i1 &&& (65535 : Int32))), .val (.int (i2 &&& (65535 : Int32))), .val (.int (i3 &&& (65535 : Int32))), .val (.ref b36), .unset, .unset] [])) _
        refine XS.aload X36.here hx rfl (hb hby at_68) rfl rfl ?_
        show Steps p.tables e below (T36.setTop (mkF m 70 #[.val (.int i1), .val (.int i2), .val (.int i3), .val (.int i4), .val (.int i5), .val (.int (1 : Int32)), .val (.int (0 : Int32)), .val (.int (2 : Int32)), .val (.int (i1 &&& (65535 : Int32))), .val (.int (i2 &&& (65535 : Int32))), .val (.int (i3 &&& (65535 : Int32))), .val (.ref b36), .unset, .unset] [(.ref b36)])) _
        refine XS.iconst X36.here hx rfl (hb hby at_70) ?_
        show Steps p.tables e below (T36.setTop (mkF m 71 #[.val (.int i1), .val (.int i2), .val (.int i3), .val (.int i4), .val (.int i5), .val (.int (1 : Int32)), .val (.int (0 : Int32)), .val (.int (2 : Int32)), .val (.int (i1 &&& (65535 : Int32))), .val (.int (i2 &&& (65535 : Int32))), .val (.int (i3 &&& (65535 : Int32))), .val (.ref b36), .unset, .unset] [(.int (0 : Int32)), (.ref b36)])) _
        refine XS.iload X36.here hx rfl (hb hby at_71) rfl ?_
        show Steps p.tables e below (T36.setTop (mkF m 73 #[.val (.int i1), .val (.int i2), .val (.int i3), .val (.int i4), .val (.int i5), .val (.int (1 : Int32)), .val (.int (0 : Int32)), .val (.int (2 : Int32)), .val (.int (i1 &&& (65535 : Int32))), .val (.int (i2 &&& (65535 : Int32))), .val (.int (i3 &&& (65535 : Int32))), .val (.ref b36), .unset, .unset] [(.int (i1 &&& (65535 : Int32))), (.int (0 : Int32)), (.ref b36)])) _
        refine XS.bipush X36.here hx rfl (hb hby at_73) ?_
        show Steps p.tables e below (T36.setTop (mkF m 75 #[.val (.int i1), .val (.int i2), .val (.int i3), .val (.int i4), .val (.int i5), .val (.int (1 : Int32)), .val (.int (0 : Int32)), .val (.int (2 : Int32)), .val (.int (i1 &&& (65535 : Int32))), .val (.int (i2 &&& (65535 : Int32))), .val (.int (i3 &&& (65535 : Int32))), .val (.ref b36), .unset, .unset] [(.int (8 : Int32)), (.int (i1 &&& (65535 : Int32))), (.int (0 : Int32)), (.ref b36)])) _
        refine XS.iushr X36.here hx rfl (hb hby at_75) rfl ?_
        show Steps p.tables e below (T36.setTop (mkF m 76 #[.val (.int i1), .val (.int i2), .val (.int i3), .val (.int i4), .val (.int i5), .val (.int (1 : Int32)), .val (.int (0 : Int32)), .val (.int (2 : Int32)), .val (.int (i1 &&& (65535 : Int32))), .val (.int (i2 &&& (65535 : Int32))), .val (.int (i3 &&& (65535 : Int32))), .val (.ref b36), .unset, .unset] [(.int (((i1 &&& (65535 : Int32)).toUInt32 >>> ((8 : Int32) &&& 31).toUInt32).toInt32)), (.int (0 : Int32)), (.ref b36)])) _
        refine XS.i2b X36.here hx rfl (hb hby at_76) rfl ?_
        show Steps p.tables e below (T36.setTop (mkF m 77 #[.val (.int i1), .val (.int i2), .val (.int i3), .val (.int i4), .val (.int i5), .val (.int (1 : Int32)), .val (.int (0 : Int32)), .val (.int (2 : Int32)), .val (.int (i1 &&& (65535 : Int32))), .val (.int (i2 &&& (65535 : Int32))), .val (.int (i3 &&& (65535 : Int32))), .val (.ref b36), .unset, .unset] [(.int ((((i1 &&& (65535 : Int32)).toUInt32 >>> ((8 : Int32) &&& 31).toUInt32).toInt32).toInt8.toInt32)), (.int (0 : Int32)), (.ref b36)])) _
        refine st38 _ ?_
        show Steps p.tables e below (T38.setTop (mkF m 78 #[.val (.int i1), .val (.int i2), .val (.int i3), .val (.int i4), .val (.int i5), .val (.int (1 : Int32)), .val (.int (0 : Int32)), .val (.int (2 : Int32)), .val (.int (i1 &&& (65535 : Int32))), .val (.int (i2 &&& (65535 : Int32))), .val (.int (i3 &&& (65535 : Int32))), .val (.ref b36), .unset, .unset] [])) _
        refine XS.aload X38.here hx rfl (hb hby at_78) rfl rfl ?_
        show Steps p.tables e below (T38.setTop (mkF m 80 #[.val (.int i1), .val (.int i2), .val (.int i3), .val (.int i4), .val (.int i5), .val (.int (1 : Int32)), .val (.int (0 : Int32)), .val (.int (2 : Int32)), .val (.int (i1 &&& (65535 : Int32))), .val (.int (i2 &&& (65535 : Int32))), .val (.int (i3 &&& (65535 : Int32))), .val (.ref b36), .unset, .unset] [(.ref b36)])) _
        refine XS.iconst X38.here hx rfl (hb hby at_80) ?_
        show Steps p.tables e below (T38.setTop (mkF m 81 #[.val (.int i1), .val (.int i2), .val (.int i3), .val (.int i4), .val (.int i5), .val (.int (1 : Int32)), .val (.int (0 : Int32)), .val (.int (2 : Int32)), .val (.int (i1 &&& (65535 : Int32))), .val (.int (i2 &&& (65535 : Int32))), .val (.int (i3 &&& (65535 : Int32))), .val (.ref b36), .unset, .unset] [(.int (1 : Int32)), (.ref b36)])) _
        refine XS.iload X38.here hx rfl (hb hby at_81) rfl ?_
        show Steps p.tables e below (T38.setTop (mkF m 83 #[.val (.int i1), .val (.int i2), .val (.int i3), .val (.int i4), .val (.int i5), .val (.int (1 : Int32)), .val (.int (0 : Int32)), .val (.int (2 : Int32)), .val (.int (i1 &&& (65535 : Int32))), .val (.int (i2 &&& (65535 : Int32))), .val (.int (i3 &&& (65535 : Int32))), .val (.ref b36), .unset, .unset] [(.int (i1 &&& (65535 : Int32))), (.int (1 : Int32)), (.ref b36)])) _
        refine XS.i2b X38.here hx rfl (hb hby at_83) rfl ?_
        show Steps p.tables e below (T38.setTop (mkF m 84 #[.val (.int i1), .val (.int i2), .val (.int i3), .val (.int i4), .val (.int i5), .val (.int (1 : Int32)), .val (.int (0 : Int32)), .val (.int (2 : Int32)), .val (.int (i1 &&& (65535 : Int32))), .val (.int (i2 &&& (65535 : Int32))), .val (.int (i3 &&& (65535 : Int32))), .val (.ref b36), .unset, .unset] [(.int ((i1 &&& (65535 : Int32)).toInt8.toInt32)), (.int (1 : Int32)), (.ref b36)])) _
        refine st40 _ ?_
        show Steps p.tables e below (T40.setTop (mkF m 85 #[.val (.int i1), .val (.int i2), .val (.int i3), .val (.int i4), .val (.int i5), .val (.int (1 : Int32)), .val (.int (0 : Int32)), .val (.int (2 : Int32)), .val (.int (i1 &&& (65535 : Int32))), .val (.int (i2 &&& (65535 : Int32))), .val (.int (i3 &&& (65535 : Int32))), .val (.ref b36), .unset, .unset] [])) _
        refine XS.iload X40.here hx rfl (hb hby at_85) rfl ?_
        show Steps p.tables e below (T40.setTop (mkF m 87 #[.val (.int i1), .val (.int i2), .val (.int i3), .val (.int i4), .val (.int i5), .val (.int (1 : Int32)), .val (.int (0 : Int32)), .val (.int (2 : Int32)), .val (.int (i1 &&& (65535 : Int32))), .val (.int (i2 &&& (65535 : Int32))), .val (.int (i3 &&& (65535 : Int32))), .val (.ref b36), .unset, .unset] [(.int (1 : Int32))])) _
        refine XS.iconst X40.here hx rfl (hb hby at_87) ?_
        show Steps p.tables e below (T40.setTop (mkF m 88 #[.val (.int i1), .val (.int i2), .val (.int i3), .val (.int i4), .val (.int i5), .val (.int (1 : Int32)), .val (.int (0 : Int32)), .val (.int (2 : Int32)), .val (.int (i1 &&& (65535 : Int32))), .val (.int (i2 &&& (65535 : Int32))), .val (.int (i3 &&& (65535 : Int32))), .val (.ref b36), .unset, .unset] [(.int (1 : Int32)), (.int (1 : Int32))])) _
        refine XS.icmpYes X40.here hx rfl (pc0 := 88) (pc' := 108) rfl (hb hby at_88) rfl (flt (by decide : ¬ ((1 : Int32) < (1 : Int32)))).2.2.2 (by decide) (by decide) ?_
        show Steps p.tables e below (T40.setTop (mkF m 108 #[.val (.int i1), .val (.int i2), .val (.int i3), .val (.int i4), .val (.int i5), .val (.int (1 : Int32)), .val (.int (0 : Int32)), .val (.int (2 : Int32)), .val (.int (i1 &&& (65535 : Int32))), .val (.int (i2 &&& (65535 : Int32))), .val (.int (i3 &&& (65535 : Int32))), .val (.ref b36), .unset, .unset] [])) _
        refine XS.iload X40.here hx rfl (hb hby at_108) rfl ?_
        show Steps p.tables e below (T40.setTop (mkF m 110 #[.val (.int i1), .val (.int i2), .val (.int i3), .val (.int i4), .val (.int i5), .val (.int (1 : Int32)), .val (.int (0 : Int32)), .val (.int (2 : Int32)), .val (.int (i1 &&& (65535 : Int32))), .val (.int (i2 &&& (65535 : Int32))), .val (.int (i3 &&& (65535 : Int32))), .val (.ref b36), .unset, .unset] [(.int (1 : Int32))])) _
        refine XS.iconst X40.here hx rfl (hb hby at_110) ?_
        show Steps p.tables e below (T40.setTop (mkF m 111 #[.val (.int i1), .val (.int i2), .val (.int i3), .val (.int i4), .val (.int i5), .val (.int (1 : Int32)), .val (.int (0 : Int32)), .val (.int (2 : Int32)), .val (.int (i1 &&& (65535 : Int32))), .val (.int (i2 &&& (65535 : Int32))), .val (.int (i3 &&& (65535 : Int32))), .val (.ref b36), .unset, .unset] [(.int (2 : Int32)), (.int (1 : Int32))])) _
        refine XS.icmpYes X40.here hx rfl (pc0 := 111) (pc' := 131) rfl (hb hby at_111) rfl (flt (by decide : ¬ ((2 : Int32) < (1 : Int32)))).2.2.2 (by decide) (by decide) ?_
        show Steps p.tables e below (T40.setTop (mkF m 131 #[.val (.int i1), .val (.int i2), .val (.int i3), .val (.int i4), .val (.int i5), .val (.int (1 : Int32)), .val (.int (0 : Int32)), .val (.int (2 : Int32)), .val (.int (i1 &&& (65535 : Int32))), .val (.int (i2 &&& (65535 : Int32))), .val (.int (i3 &&& (65535 : Int32))), .val (.ref b36), .unset, .unset] [])) _
        refine XS.iload X40.here hx rfl (hb hby at_131) rfl ?_
        show Steps p.tables e below (T40.setTop (mkF m 133 #[.val (.int i1), .val (.int i2), .val (.int i3), .val (.int i4), .val (.int i5), .val (.int (1 : Int32)), .val (.int (0 : Int32)), .val (.int (2 : Int32)), .val (.int (i1 &&& (65535 : Int32))), .val (.int (i2 &&& (65535 : Int32))), .val (.int (i3 &&& (65535 : Int32))), .val (.ref b36), .unset, .unset] [(.int (0 : Int32))])) _
        refine XS.ifYes X40.here hx rfl (pc0 := 133) (pc' := 145) rfl (hb hby at_133) rfl ((if0 _ _).trans (teq (by decide : (0 : Int32) = (0 : Int32))).1) (by decide) (by decide) ?_
        show Steps p.tables e below (T40.setTop (mkF m 145 #[.val (.int i1), .val (.int i2), .val (.int i3), .val (.int i4), .val (.int i5), .val (.int (1 : Int32)), .val (.int (0 : Int32)), .val (.int (2 : Int32)), .val (.int (i1 &&& (65535 : Int32))), .val (.int (i2 &&& (65535 : Int32))), .val (.int (i3 &&& (65535 : Int32))), .val (.ref b36), .unset, .unset] [])) _
        refine XS.aload X40.here hx rfl (hb hby at_145) rfl rfl ?_
        show Steps p.tables e below (T40.setTop (mkF m 147 #[.val (.int i1), .val (.int i2), .val (.int i3), .val (.int i4), .val (.int i5), .val (.int (1 : Int32)), .val (.int (0 : Int32)), .val (.int (2 : Int32)), .val (.int (i1 &&& (65535 : Int32))), .val (.int (i2 &&& (65535 : Int32))), .val (.int (i3 &&& (65535 : Int32))), .val (.ref b36), .unset, .unset] [(.ref b36)])) _
        refine st42 _ ?_
        show Steps p.tables e below (T42.setTop (mkF m 150 #[.val (.int i1), .val (.int i2), .val (.int i3), .val (.int i4), .val (.int i5), .val (.int (1 : Int32)), .val (.int (0 : Int32)), .val (.int (2 : Int32)), .val (.int (i1 &&& (65535 : Int32))), .val (.int (i2 &&& (65535 : Int32))), .val (.int (i3 &&& (65535 : Int32))), .val (.ref b36), .unset, .unset] [(.ref b42_0)])) _
        refine XS.astore X42.here hx rfl (hb hby at_150) rfl rfl (l' := #[.val (.int i1), .val (.int i2), .val (.int i3), .val (.int i4), .val (.int i5), .val (.int (1 : Int32)), .val (.int (0 : Int32)), .val (.int (2 : Int32)), .val (.int (i1 &&& (65535 : Int32))), .val (.int (i2 &&& (65535 : Int32))), .val (.int (i3 &&& (65535 : Int32))), .val (.ref b36), .val (.ref b42_0), .unset]) rfl ?_
        show Steps p.tables e below (T42.setTop (mkF m 152 #[.val (.int i1), .val (.int i2), .val (.int i3), .val (.int i4), .val (.int i5), .val (.int (1 : Int32)), .val (.int (0 : Int32)), .val (.int (2 : Int32)), .val (.int (i1 &&& (65535 : Int32))), .val (.int (i2 &&& (65535 : Int32))), .val (.int (i3 &&& (65535 : Int32))), .val (.ref b36), .val (.ref b42_0), .unset] [])) _
        refine XS.aload X42.here hx rfl (hb hby at_152) rfl rfl ?_
        show Steps p.tables e below (T42.setTop (mkF m 154 #[.val (.int i1), .val (.int i2), .val (.int i3), .val (.int i4), .val (.int i5), .val (.int (1 : Int32)), .val (.int (0 : Int32)), .val (.int (2 : Int32)), .val (.int (i1 &&& (65535 : Int32))), .val (.int (i2 &&& (65535 : Int32))), .val (.int (i3 &&& (65535 : Int32))), .val (.ref b36), .val (.ref b42_0), .unset] [(.ref b42_0)])) _
        refine X42.arraylength hx (by exact Ar44.1) (State.isArrayOf_alike hZ.alike Ar44.2.1) (g := (mkF m 154 #[.val (.int i1), .val (.int i2), .val (.int i3), .val (.int i4), .val (.int i5), .val (.int (1 : Int32)), .val (.int (0 : Int32)), .val (.int (2 : Int32)), .val (.int (i1 &&& (65535 : Int32))), .val (.int (i2 &&& (65535 : Int32))), .val (.int (i3 &&& (65535 : Int32))), .val (.ref b36), .val (.ref b42_0), .unset] [(.ref b42_0)])) rfl rfl (hb hby at_154) _ ?_
        rw [len_of Sz44 Nn44]
        show Steps p.tables e below (T42.setTop (mkF m 155 #[.val (.int i1), .val (.int i2), .val (.int i3), .val (.int i4), .val (.int i5), .val (.int (1 : Int32)), .val (.int (0 : Int32)), .val (.int (2 : Int32)), .val (.int (i1 &&& (65535 : Int32))), .val (.int (i2 &&& (65535 : Int32))), .val (.int (i3 &&& (65535 : Int32))), .val (.ref b36), .val (.ref b42_0), .unset] [(.int (1 : Int32))])) _
        refine XS.iload X42.here hx rfl (hb hby at_155) rfl ?_
        show Steps p.tables e below (T42.setTop (mkF m 157 #[.val (.int i1), .val (.int i2), .val (.int i3), .val (.int i4), .val (.int i5), .val (.int (1 : Int32)), .val (.int (0 : Int32)), .val (.int (2 : Int32)), .val (.int (i1 &&& (65535 : Int32))), .val (.int (i2 &&& (65535 : Int32))), .val (.int (i3 &&& (65535 : Int32))), .val (.ref b36), .val (.ref b42_0), .unset] [(.int (1 : Int32)), (.int (1 : Int32))])) _
        refine XS.icmpYes X42.here hx rfl (pc0 := 157) (pc' := 162) rfl (hb hby at_157) rfl (teq (by decide : (1 : Int32) = (1 : Int32))).1 (by decide) (by decide) ?_
        show Steps p.tables e below (T42.setTop (mkF m 162 #[.val (.int i1), .val (.int i2), .val (.int i3), .val (.int i4), .val (.int i5), .val (.int (1 : Int32)), .val (.int (0 : Int32)), .val (.int (2 : Int32)), .val (.int (i1 &&& (65535 : Int32))), .val (.int (i2 &&& (65535 : Int32))), .val (.int (i3 &&& (65535 : Int32))), .val (.ref b36), .val (.ref b42_0), .unset] [])) _
        refine XS.iconst X42.here hx rfl (hb hby at_162) ?_
        show Steps p.tables e below (T42.setTop (mkF m 163 #[.val (.int i1), .val (.int i2), .val (.int i3), .val (.int i4), .val (.int i5), .val (.int (1 : Int32)), .val (.int (0 : Int32)), .val (.int (2 : Int32)), .val (.int (i1 &&& (65535 : Int32))), .val (.int (i2 &&& (65535 : Int32))), .val (.int (i3 &&& (65535 : Int32))), .val (.ref b36), .val (.ref b42_0), .unset] [(.int (1 : Int32))])) _
        refine XS.istore X42.here hx rfl (hb hby at_163) rfl (l' := #[.val (.int i1), .val (.int i2), .val (.int i3), .val (.int i4), .val (.int i5), .val (.int (1 : Int32)), .val (.int (0 : Int32)), .val (.int (2 : Int32)), .val (.int (i1 &&& (65535 : Int32))), .val (.int (i2 &&& (65535 : Int32))), .val (.int (i3 &&& (65535 : Int32))), .val (.ref b36), .val (.ref b42_0), .val (.int (1 : Int32))]) rfl ?_
        show Steps p.tables e below (T42.setTop (mkF m 165 #[.val (.int i1), .val (.int i2), .val (.int i3), .val (.int i4), .val (.int i5), .val (.int (1 : Int32)), .val (.int (0 : Int32)), .val (.int (2 : Int32)), .val (.int (i1 &&& (65535 : Int32))), .val (.int (i2 &&& (65535 : Int32))), .val (.int (i3 &&& (65535 : Int32))), .val (.ref b36), .val (.ref b42_0), .val (.int (1 : Int32))] [])) _
        refine XS.iload X42.here hx rfl (hb hby at_165) rfl ?_
        show Steps p.tables e below (T42.setTop (mkF m 167 #[.val (.int i1), .val (.int i2), .val (.int i3), .val (.int i4), .val (.int i5), .val (.int (1 : Int32)), .val (.int (0 : Int32)), .val (.int (2 : Int32)), .val (.int (i1 &&& (65535 : Int32))), .val (.int (i2 &&& (65535 : Int32))), .val (.int (i3 &&& (65535 : Int32))), .val (.ref b36), .val (.ref b42_0), .val (.int (1 : Int32))] [(.int (1 : Int32))])) _
        refine XS.ifNo X42.here hx rfl (hb hby at_167) rfl ((if0 _ _).trans (tlt (by decide : (0 : Int32) < (1 : Int32))).2.2.2) ?_
        show Steps p.tables e below (T42.setTop (mkF m 170 #[.val (.int i1), .val (.int i2), .val (.int i3), .val (.int i4), .val (.int i5), .val (.int (1 : Int32)), .val (.int (0 : Int32)), .val (.int (2 : Int32)), .val (.int (i1 &&& (65535 : Int32))), .val (.int (i2 &&& (65535 : Int32))), .val (.int (i3 &&& (65535 : Int32))), .val (.ref b36), .val (.ref b42_0), .val (.int (1 : Int32))] [])) _
        refine XS.iload X42.here hx rfl (hb hby at_170) rfl ?_
        show Steps p.tables e below (T42.setTop (mkF m 172 #[.val (.int i1), .val (.int i2), .val (.int i3), .val (.int i4), .val (.int i5), .val (.int (1 : Int32)), .val (.int (0 : Int32)), .val (.int (2 : Int32)), .val (.int (i1 &&& (65535 : Int32))), .val (.int (i2 &&& (65535 : Int32))), .val (.int (i3 &&& (65535 : Int32))), .val (.ref b36), .val (.ref b42_0), .val (.int (1 : Int32))] [(.int (1 : Int32))])) _
        refine XS.ifNo X42.here hx rfl (hb hby at_172) rfl ((if0 _ _).trans (feq (by decide : ¬ ((1 : Int32) = (0 : Int32)))).1) ?_
        show Steps p.tables e below (T42.setTop (mkF m 175 #[.val (.int i1), .val (.int i2), .val (.int i3), .val (.int i4), .val (.int i5), .val (.int (1 : Int32)), .val (.int (0 : Int32)), .val (.int (2 : Int32)), .val (.int (i1 &&& (65535 : Int32))), .val (.int (i2 &&& (65535 : Int32))), .val (.int (i3 &&& (65535 : Int32))), .val (.ref b36), .val (.ref b42_0), .val (.int (1 : Int32))] [])) _
        refine XS.aload X42.here hx rfl (hb hby at_175) rfl rfl ?_
        show Steps p.tables e below (T42.setTop (mkF m 177 #[.val (.int i1), .val (.int i2), .val (.int i3), .val (.int i4), .val (.int i5), .val (.int (1 : Int32)), .val (.int (0 : Int32)), .val (.int (2 : Int32)), .val (.int (i1 &&& (65535 : Int32))), .val (.int (i2 &&& (65535 : Int32))), .val (.int (i3 &&& (65535 : Int32))), .val (.ref b36), .val (.ref b42_0), .val (.int (1 : Int32))] [(.ref b42_0)])) _
        refine XS.iconst X42.here hx rfl (hb hby at_177) ?_
        show Steps p.tables e below (T42.setTop (mkF m 178 #[.val (.int i1), .val (.int i2), .val (.int i3), .val (.int i4), .val (.int i5), .val (.int (1 : Int32)), .val (.int (0 : Int32)), .val (.int (2 : Int32)), .val (.int (i1 &&& (65535 : Int32))), .val (.int (i2 &&& (65535 : Int32))), .val (.int (i3 &&& (65535 : Int32))), .val (.ref b36), .val (.ref b42_0), .val (.int (1 : Int32))] [(.int (0 : Int32)), (.ref b42_0)])) _
        refine X42.caload hx (j := (0 : Int32)) (v := (.int (nar .char (((((nar .byte ((((i1 &&& (65535 : Int32)).toUInt32 >>> ((8 : Int32) &&& 31).toUInt32).toInt32).toInt8.toInt32)) &&& (255 : Int32)) <<< ((8 : Int32) &&& 31)) ||| ((nar .byte ((i1 &&& (65535 : Int32)).toInt8.toInt32)) &&& (255 : Int32))).toUInt32.toUInt16.toUInt32.toInt32)))) (by exact Ar45.1) (State.isArrayOf_alike hZ.alike Ar45.2.1) Ar45.2.2 hin45 hat45 (g := (mkF m 178 #[.val (.int i1), .val (.int i2), .val (.int i3), .val (.int i4), .val (.int i5), .val (.int (1 : Int32)), .val (.int (0 : Int32)), .val (.int (2 : Int32)), .val (.int (i1 &&& (65535 : Int32))), .val (.int (i2 &&& (65535 : Int32))), .val (.int (i3 &&& (65535 : Int32))), .val (.ref b36), .val (.ref b42_0), .val (.int (1 : Int32))] [(.int (0 : Int32)), (.ref b42_0)])) rfl rfl (hb hby at_178) _ ?_
        show Steps p.tables e below (T42.setTop (mkF m 179 #[.val (.int i1), .val (.int i2), .val (.int i3), .val (.int i4), .val (.int i5), .val (.int (1 : Int32)), .val (.int (0 : Int32)), .val (.int (2 : Int32)), .val (.int (i1 &&& (65535 : Int32))), .val (.int (i2 &&& (65535 : Int32))), .val (.int (i3 &&& (65535 : Int32))), .val (.ref b36), .val (.ref b42_0), .val (.int (1 : Int32))] [(.int (nar .char (((((nar .byte ((((i1 &&& (65535 : Int32)).toUInt32 >>> ((8 : Int32) &&& 31).toUInt32).toInt32).toInt8.toInt32)) &&& (255 : Int32)) <<< ((8 : Int32) &&& 31)) ||| ((nar .byte ((i1 &&& (65535 : Int32)).toInt8.toInt32)) &&& (255 : Int32))).toUInt32.toUInt16.toUInt32.toInt32)))])) _
        refine XS.iload X42.here hx rfl (hb hby at_179) rfl ?_
        exact k
      have pre50 : ∀ t, Steps p.tables e below (T42.setTop (mkF m 189 #[.val (.int i1), .val (.int i2), .val (.int i3), .val (.int i4), .val (.int i5), .val (.int (1 : Int32)), .val (.int (0 : Int32)), .val (.int (2 : Int32)), .val (.int (i1 &&& (65535 : Int32))), .val (.int (i2 &&& (65535 : Int32))), .val (.int (i3 &&& (65535 : Int32))), .val (.ref b36), .val (.ref b42_0), .val (.int (1 : Int32))] [(.int (own_j0_181_0 i1))])) t → Steps p.tables e below (s₁.setTop (entryFrame m #[(.int i1), (.int i2), (.int i3), (.int i4), (.int i5)] maxLocals)) t := by
        by_cases hc181_47 : (nar .char (((((nar .byte ((((i1 &&& (65535 : Int32)).toUInt32 >>> ((8 : Int32) &&& 31).toUInt32).toInt32).toInt8.toInt32)) &&& (255 : Int32)) <<< ((8 : Int32) &&& 31)) ||| ((nar .byte ((i1 &&& (65535 : Int32)).toInt8.toInt32)) &&& (255 : Int32))).toUInt32.toUInt16.toUInt32.toInt32)) = (i1 &&& (65535 : Int32))
        · have pre48 : ∀ t, Steps p.tables e below (T42.setTop (mkF m 189 #[.val (.int i1), .val (.int i2), .val (.int i3), .val (.int i4), .val (.int i5), .val (.int (1 : Int32)), .val (.int (0 : Int32)), .val (.int (2 : Int32)), .val (.int (i1 &&& (65535 : Int32))), .val (.int (i2 &&& (65535 : Int32))), .val (.int (i3 &&& (65535 : Int32))), .val (.ref b36), .val (.ref b42_0), .val (.int (1 : Int32))] [(.int (1 : Int32))])) t → Steps p.tables e below (s₁.setTop (entryFrame m #[(.int i1), (.int i2), (.int i3), (.int i4), (.int i5)] maxLocals)) t := by
            intro t k
            refine pre46 _ ?_
            show Steps p.tables e below (T42.setTop (mkF m 181 #[.val (.int i1), .val (.int i2), .val (.int i3), .val (.int i4), .val (.int i5), .val (.int (1 : Int32)), .val (.int (0 : Int32)), .val (.int (2 : Int32)), .val (.int (i1 &&& (65535 : Int32))), .val (.int (i2 &&& (65535 : Int32))), .val (.int (i3 &&& (65535 : Int32))), .val (.ref b36), .val (.ref b42_0), .val (.int (1 : Int32))] [(.int (i1 &&& (65535 : Int32))), (.int (nar .char (((((nar .byte ((((i1 &&& (65535 : Int32)).toUInt32 >>> ((8 : Int32) &&& 31).toUInt32).toInt32).toInt8.toInt32)) &&& (255 : Int32)) <<< ((8 : Int32) &&& 31)) ||| ((nar .byte ((i1 &&& (65535 : Int32)).toInt8.toInt32)) &&& (255 : Int32))).toUInt32.toUInt16.toUInt32.toInt32)))])) _
            refine XS.icmpNo X42.here hx rfl (hb hby at_181) rfl (teq hc181_47).2 ?_
            show Steps p.tables e below (T42.setTop (mkF m 184 #[.val (.int i1), .val (.int i2), .val (.int i3), .val (.int i4), .val (.int i5), .val (.int (1 : Int32)), .val (.int (0 : Int32)), .val (.int (2 : Int32)), .val (.int (i1 &&& (65535 : Int32))), .val (.int (i2 &&& (65535 : Int32))), .val (.int (i3 &&& (65535 : Int32))), .val (.ref b36), .val (.ref b42_0), .val (.int (1 : Int32))] [])) _
            refine XS.iconst X42.here hx rfl (hb hby at_184) ?_
            show Steps p.tables e below (T42.setTop (mkF m 185 #[.val (.int i1), .val (.int i2), .val (.int i3), .val (.int i4), .val (.int i5), .val (.int (1 : Int32)), .val (.int (0 : Int32)), .val (.int (2 : Int32)), .val (.int (i1 &&& (65535 : Int32))), .val (.int (i2 &&& (65535 : Int32))), .val (.int (i3 &&& (65535 : Int32))), .val (.ref b36), .val (.ref b42_0), .val (.int (1 : Int32))] [(.int (1 : Int32))])) _
            refine XS.goto X42.here hx rfl (pc0 := 185) (pc' := 189) rfl (hb hby at_185) (by decide) (by decide) ?_
            exact k
          exact fun t k => pre48 t (by rw [show (own_j0_181_0 i1) = (1 : Int32) from (if_pos hc181_47)] at k; exact k)
        · have pre49 : ∀ t, Steps p.tables e below (T42.setTop (mkF m 189 #[.val (.int i1), .val (.int i2), .val (.int i3), .val (.int i4), .val (.int i5), .val (.int (1 : Int32)), .val (.int (0 : Int32)), .val (.int (2 : Int32)), .val (.int (i1 &&& (65535 : Int32))), .val (.int (i2 &&& (65535 : Int32))), .val (.int (i3 &&& (65535 : Int32))), .val (.ref b36), .val (.ref b42_0), .val (.int (1 : Int32))] [(.int (0 : Int32))])) t → Steps p.tables e below (s₁.setTop (entryFrame m #[(.int i1), (.int i2), (.int i3), (.int i4), (.int i5)] maxLocals)) t := by
            intro t k
            refine pre46 _ ?_
            show Steps p.tables e below (T42.setTop (mkF m 181 #[.val (.int i1), .val (.int i2), .val (.int i3), .val (.int i4), .val (.int i5), .val (.int (1 : Int32)), .val (.int (0 : Int32)), .val (.int (2 : Int32)), .val (.int (i1 &&& (65535 : Int32))), .val (.int (i2 &&& (65535 : Int32))), .val (.int (i3 &&& (65535 : Int32))), .val (.ref b36), .val (.ref b42_0), .val (.int (1 : Int32))] [(.int (i1 &&& (65535 : Int32))), (.int (nar .char (((((nar .byte ((((i1 &&& (65535 : Int32)).toUInt32 >>> ((8 : Int32) &&& 31).toUInt32).toInt32).toInt8.toInt32)) &&& (255 : Int32)) <<< ((8 : Int32) &&& 31)) ||| ((nar .byte ((i1 &&& (65535 : Int32)).toInt8.toInt32)) &&& (255 : Int32))).toUInt32.toUInt16.toUInt32.toInt32)))])) _
            refine XS.icmpYes X42.here hx rfl (pc0 := 181) (pc' := 188) rfl (hb hby at_181) rfl (feq hc181_47).2 (by decide) (by decide) ?_
            show Steps p.tables e below (T42.setTop (mkF m 188 #[.val (.int i1), .val (.int i2), .val (.int i3), .val (.int i4), .val (.int i5), .val (.int (1 : Int32)), .val (.int (0 : Int32)), .val (.int (2 : Int32)), .val (.int (i1 &&& (65535 : Int32))), .val (.int (i2 &&& (65535 : Int32))), .val (.int (i3 &&& (65535 : Int32))), .val (.ref b36), .val (.ref b42_0), .val (.int (1 : Int32))] [])) _
            refine XS.iconst X42.here hx rfl (hb hby at_188) ?_
            exact k
          exact fun t k => pre49 t (by rw [show (own_j0_181_0 i1) = (0 : Int32) from (if_neg hc181_47)] at k; exact k)
      have pre51 : ∀ t, Steps p.tables e below (T42.setTop (mkF m 247 #[.val (.int i1), .val (.int i2), .val (.int i3), .val (.int i4), .val (.int i5), .val (.int (1 : Int32)), .val (.int (0 : Int32)), .val (.int (2 : Int32)), .val (.int (i1 &&& (65535 : Int32))), .val (.int (i2 &&& (65535 : Int32))), .val (.int (i3 &&& (65535 : Int32))), .val (.ref b36), .val (.ref b42_0), .val (.int (own_j0_181_0 i1))] [(.int (own_j0_181_0 i1))])) t → Steps p.tables e below (s₁.setTop (entryFrame m #[(.int i1), (.int i2), (.int i3), (.int i4), (.int i5)] maxLocals)) t := by
        intro t k
        refine pre50 _ ?_
        show Steps p.tables e below (T42.setTop (mkF m 189 #[.val (.int i1), .val (.int i2), .val (.int i3), .val (.int i4), .val (.int i5), .val (.int (1 : Int32)), .val (.int (0 : Int32)), .val (.int (2 : Int32)), .val (.int (i1 &&& (65535 : Int32))), .val (.int (i2 &&& (65535 : Int32))), .val (.int (i3 &&& (65535 : Int32))), .val (.ref b36), .val (.ref b42_0), .val (.int (1 : Int32))] [(.int (own_j0_181_0 i1))])) _
        refine XS.istore X42.here hx rfl (hb hby at_189) rfl (l' := #[.val (.int i1), .val (.int i2), .val (.int i3), .val (.int i4), .val (.int i5), .val (.int (1 : Int32)), .val (.int (0 : Int32)), .val (.int (2 : Int32)), .val (.int (i1 &&& (65535 : Int32))), .val (.int (i2 &&& (65535 : Int32))), .val (.int (i3 &&& (65535 : Int32))), .val (.ref b36), .val (.ref b42_0), .val (.int (own_j0_181_0 i1))]) rfl ?_
        show Steps p.tables e below (T42.setTop (mkF m 191 #[.val (.int i1), .val (.int i2), .val (.int i3), .val (.int i4), .val (.int i5), .val (.int (1 : Int32)), .val (.int (0 : Int32)), .val (.int (2 : Int32)), .val (.int (i1 &&& (65535 : Int32))), .val (.int (i2 &&& (65535 : Int32))), .val (.int (i3 &&& (65535 : Int32))), .val (.ref b36), .val (.ref b42_0), .val (.int (own_j0_181_0 i1))] [])) _
        refine XS.iload X42.here hx rfl (hb hby at_191) rfl ?_
        show Steps p.tables e below (T42.setTop (mkF m 193 #[.val (.int i1), .val (.int i2), .val (.int i3), .val (.int i4), .val (.int i5), .val (.int (1 : Int32)), .val (.int (0 : Int32)), .val (.int (2 : Int32)), .val (.int (i1 &&& (65535 : Int32))), .val (.int (i2 &&& (65535 : Int32))), .val (.int (i3 &&& (65535 : Int32))), .val (.ref b36), .val (.ref b42_0), .val (.int (own_j0_181_0 i1))] [(.int (1 : Int32))])) _
        refine XS.iconst X42.here hx rfl (hb hby at_193) ?_
        show Steps p.tables e below (T42.setTop (mkF m 194 #[.val (.int i1), .val (.int i2), .val (.int i3), .val (.int i4), .val (.int i5), .val (.int (1 : Int32)), .val (.int (0 : Int32)), .val (.int (2 : Int32)), .val (.int (i1 &&& (65535 : Int32))), .val (.int (i2 &&& (65535 : Int32))), .val (.int (i3 &&& (65535 : Int32))), .val (.ref b36), .val (.ref b42_0), .val (.int (own_j0_181_0 i1))] [(.int (1 : Int32)), (.int (1 : Int32))])) _
        refine XS.icmpYes X42.here hx rfl (pc0 := 194) (pc' := 218) rfl (hb hby at_194) rfl (flt (by decide : ¬ ((1 : Int32) < (1 : Int32)))).2.2.2 (by decide) (by decide) ?_
        show Steps p.tables e below (T42.setTop (mkF m 218 #[.val (.int i1), .val (.int i2), .val (.int i3), .val (.int i4), .val (.int i5), .val (.int (1 : Int32)), .val (.int (0 : Int32)), .val (.int (2 : Int32)), .val (.int (i1 &&& (65535 : Int32))), .val (.int (i2 &&& (65535 : Int32))), .val (.int (i3 &&& (65535 : Int32))), .val (.ref b36), .val (.ref b42_0), .val (.int (own_j0_181_0 i1))] [])) _
        refine XS.iload X42.here hx rfl (hb hby at_218) rfl ?_
        show Steps p.tables e below (T42.setTop (mkF m 220 #[.val (.int i1), .val (.int i2), .val (.int i3), .val (.int i4), .val (.int i5), .val (.int (1 : Int32)), .val (.int (0 : Int32)), .val (.int (2 : Int32)), .val (.int (i1 &&& (65535 : Int32))), .val (.int (i2 &&& (65535 : Int32))), .val (.int (i3 &&& (65535 : Int32))), .val (.ref b36), .val (.ref b42_0), .val (.int (own_j0_181_0 i1))] [(.int (1 : Int32))])) _
        refine XS.iconst X42.here hx rfl (hb hby at_220) ?_
        show Steps p.tables e below (T42.setTop (mkF m 221 #[.val (.int i1), .val (.int i2), .val (.int i3), .val (.int i4), .val (.int i5), .val (.int (1 : Int32)), .val (.int (0 : Int32)), .val (.int (2 : Int32)), .val (.int (i1 &&& (65535 : Int32))), .val (.int (i2 &&& (65535 : Int32))), .val (.int (i3 &&& (65535 : Int32))), .val (.ref b36), .val (.ref b42_0), .val (.int (own_j0_181_0 i1))] [(.int (2 : Int32)), (.int (1 : Int32))])) _
        refine XS.icmpYes X42.here hx rfl (pc0 := 221) (pc' := 245) rfl (hb hby at_221) rfl (flt (by decide : ¬ ((2 : Int32) < (1 : Int32)))).2.2.2 (by decide) (by decide) ?_
        show Steps p.tables e below (T42.setTop (mkF m 245 #[.val (.int i1), .val (.int i2), .val (.int i3), .val (.int i4), .val (.int i5), .val (.int (1 : Int32)), .val (.int (0 : Int32)), .val (.int (2 : Int32)), .val (.int (i1 &&& (65535 : Int32))), .val (.int (i2 &&& (65535 : Int32))), .val (.int (i3 &&& (65535 : Int32))), .val (.ref b36), .val (.ref b42_0), .val (.int (own_j0_181_0 i1))] [])) _
        refine XS.iload X42.here hx rfl (hb hby at_245) rfl ?_
        exact k
      obtain ⟨fs, hr, hrun, hended, hW, hsame⟩ := X42.leave (v := some (.int (nar .boolean (own_j0_181_0 i1)))) (fun h => by rw [Bd.returns] at h; cases h)
      refine ⟨_, _, pre51 _ ?_, hrun, hended, _, _, rfl, ?_, ⟨_, rfl⟩, hW, hsame.mono (by decide) (by decide)⟩
      · show Steps p.tables e below (T42.setTop (mkF m 247 #[.val (.int i1), .val (.int i2), .val (.int i3), .val (.int i4), .val (.int i5), .val (.int (1 : Int32)), .val (.int (0 : Int32)), .val (.int (2 : Int32)), .val (.int (i1 &&& (65535 : Int32))), .val (.int (i2 &&& (65535 : Int32))), .val (.int (i3 &&& (65535 : Int32))), .val (.ref b36), .val (.ref b42_0), .val (.int (own_j0_181_0 i1))] [(.int (own_j0_181_0 i1))])) _
        exact retN X42 hx (t := .boolean) Bd.returns (by simp) (hb hby at_247) hr
      · show Q0 Z i1 i2 i3 i4 i5 h0 n0 _ T42.heap _
        exact ⟨congrArg (fun z => some (Value.int z)) (show (own_r0 i1 i2 i3 i5) = (nar .boolean (own_j0_181_0 i1)) from ((if_neg (by rw [hk2]; decide)).trans ((if_pos hk2).trans (if_pos hk34)))).symm, N42⟩
    · have pre52 : ∀ t, Steps p.tables e below (s₁.setTop (mkF m 22 #[.val (.int i1), .val (.int i2), .val (.int i3), .val (.int i4), .val (.int i5), .val (.int (1 : Int32)), .val (.int (1 : Int32)), .unset, .unset, .unset, .unset, .unset, .unset, .unset] [])) t → Steps p.tables e below (s₁.setTop (entryFrame m #[(.int i1), (.int i2), (.int i3), (.int i4), (.int i5)] maxLocals)) t := fun t k => pre33 t (by rw [hk34]; exact k)
      obtain ⟨T53, h53, k53, X53, e53, E53, A53, st53⟩ := newP X0 hx hZ (hw _ (List.mem_of_getElem? (i := 1) rfl)) e0 (g := (mkF m 59 #[.val (.int i1), .val (.int i2), .val (.int i3), .val (.int i4), .val (.int i5), .val (.int (1 : Int32)), .val (.int (1 : Int32)), .val (.int (3 : Int32)), .val (.int (i1 &&& (65535 : Int32))), .val (.int (i2 &&& (65535 : Int32))), .val (.int (i3 &&& (65535 : Int32))), .unset, .unset, .unset] [(.int (3 : Int32))])) rfl (hb hby at_59) rfl (by decide) (cap := 3) (by decide) (by decide) (by decide) (by decide)
      obtain ⟨b53, g53⟩ : ∃ z, z = h0.size := ⟨_, rfl⟩
      rw [← g53] at A53 st53
      have sz_b53 : h0.size ≤ b53 := Nat.le_trans (Keep.refl h0 []).1 (Nat.le_of_eq g53.symm)
      have K54 : Keep h0 h53 [] := (Keep.refl h0 []).ext E53
      have V53 : Arv Z h53 b53 k53 .byte (3 : Int32) [(.int (0 : Int32)), (.int (0 : Int32)), (.int (0 : Int32))] (.int (0 : Int32)) := (Arv.new A53 (by decide)).pad (pad_rep [] (.int (0 : Int32)) 3)
      obtain ⟨cl55, Ar55, Cq55, Sz55, Nn55, Hh55, Gg55⟩ := id V53
      have hin55 : ¬ ((0 : Int32) < 0 ∨ cl55.slots.size ≤ ((0 : Int32)).toNatClampNeg) := inb_of Sz55 ⟨by decide, by decide⟩
      obtain ⟨T55, h55, X55, e55, W55, st55⟩ := stB X53 hx hZ e53 Ar55 (j := (0 : Int32)) hin55 (g := (mkF m 77 #[.val (.int i1), .val (.int i2), .val (.int i3), .val (.int i4), .val (.int i5), .val (.int (1 : Int32)), .val (.int (1 : Int32)), .val (.int (3 : Int32)), .val (.int (i1 &&& (65535 : Int32))), .val (.int (i2 &&& (65535 : Int32))), .val (.int (i3 &&& (65535 : Int32))), .val (.ref b53), .unset, .unset] [(.int ((((i1 &&& (65535 : Int32)).toUInt32 >>> ((8 : Int32) &&& 31).toUInt32).toInt32).toInt8.toInt32)), (.int (0 : Int32)), (.ref b53)])) rfl rfl (hb hby at_77)
      have V55 : Arv Z h55 b53 k53 .byte (3 : Int32) [(.int (nar .byte ((((i1 &&& (65535 : Int32)).toUInt32 >>> ((8 : Int32) &&& 31).toUInt32).toInt32).toInt8.toInt32))), (.int (0 : Int32)), (.int (0 : Int32))] (.int (0 : Int32)) := Arv.set Ar55 Cq55 Sz55 Nn55 Hh55 Gg55 (fits_nar_byte _) W55 0 rfl (Nat.le_of_ble_eq_true rfl)
      have N55 := Fr.snoc X55 N0 (Nat.le_trans Z0 sz_b53)
      have K56 : Keep h0 h55 [] := K54.wr W55 (Or.inr sz_b53)
      obtain ⟨cl57, Ar57, Cq57, Sz57, Nn57, Hh57, Gg57⟩ := id V55
      have hin57 : ¬ ((1 : Int32) < 0 ∨ cl57.slots.size ≤ ((1 : Int32)).toNatClampNeg) := inb_of Sz57 ⟨by decide, by decide⟩
      obtain ⟨T57, h57, X57, e57, W57, st57⟩ := stB X55 hx hZ e55 Ar57 (j := (1 : Int32)) hin57 (g := (mkF m 84 #[.val (.int i1), .val (.int i2), .val (.int i3), .val (.int i4), .val (.int i5), .val (.int (1 : Int32)), .val (.int (1 : Int32)), .val (.int (3 : Int32)), .val (.int (i1 &&& (65535 : Int32))), .val (.int (i2 &&& (65535 : Int32))), .val (.int (i3 &&& (65535 : Int32))), .val (.ref b53), .unset, .unset] [(.int ((i1 &&& (65535 : Int32)).toInt8.toInt32)), (.int (1 : Int32)), (.ref b53)])) rfl rfl (hb hby at_84)
      have V57 : Arv Z h57 b53 k53 .byte (3 : Int32) [(.int (nar .byte ((((i1 &&& (65535 : Int32)).toUInt32 >>> ((8 : Int32) &&& 31).toUInt32).toInt32).toInt8.toInt32))), (.int (nar .byte ((i1 &&& (65535 : Int32)).toInt8.toInt32))), (.int (0 : Int32))] (.int (0 : Int32)) := Arv.set Ar57 Cq57 Sz57 Nn57 Hh57 Gg57 (fits_nar_byte _) W57 1 rfl (Nat.le_of_ble_eq_true rfl)
      have N57 := Fr.snoc X57 N55 (Nat.le_trans Z0 sz_b53)
      have K58 : Keep h0 h57 [] := K56.wr W57 (Or.inr sz_b53)
      obtain ⟨cl59, Ar59, Cq59, Sz59, Nn59, Hh59, Gg59⟩ := id V57
      have hin59 : ¬ ((2 : Int32) < 0 ∨ cl59.slots.size ≤ ((2 : Int32)).toNatClampNeg) := inb_of Sz59 ⟨by decide, by decide⟩
      obtain ⟨T59, h59, X59, e59, W59, st59⟩ := stB X57 hx hZ e57 Ar59 (j := (2 : Int32)) hin59 (g := (mkF m 144 #[.val (.int i1), .val (.int i2), .val (.int i3), .val (.int i4), .val (.int i5), .val (.int (1 : Int32)), .val (.int (1 : Int32)), .val (.int (3 : Int32)), .val (.int (i1 &&& (65535 : Int32))), .val (.int (i2 &&& (65535 : Int32))), .val (.int (i3 &&& (65535 : Int32))), .val (.ref b53), .unset, .unset] [(.int (i4.toInt8.toInt32)), (.int (2 : Int32)), (.ref b53)])) rfl rfl (hb hby at_144)
      have V59 : Arv Z h59 b53 k53 .byte (3 : Int32) [(.int (nar .byte ((((i1 &&& (65535 : Int32)).toUInt32 >>> ((8 : Int32) &&& 31).toUInt32).toInt32).toInt8.toInt32))), (.int (nar .byte ((i1 &&& (65535 : Int32)).toInt8.toInt32))), (.int (nar .byte (i4.toInt8.toInt32)))] (.int (0 : Int32)) := Arv.set Ar59 Cq59 Sz59 Nn59 Hh59 Gg59 (fits_nar_byte _) W59 2 rfl (Nat.le_of_ble_eq_true rfl)
      have N59 := Fr.snoc X59 N57 (Nat.le_trans Z0 sz_b53)
      have K60 : Keep h0 h59 [] := K58.wr W59 (Or.inr sz_b53)
      obtain ⟨_, _, ⟨T61, L61, k61, n61⟩, -, X61, ⟨Lc61, hQ61, l61, y61, z61⟩, st61⟩ := Jvm.LawKit.callS X59 hx (y := (⟨"com/example/aschenputtel/aschenputtel/values/UcaWeights", "keyCharacters", "([B)[C"⟩ : MethodName)) hown (mvT hZ (hw _ (List.mem_of_getElem? (i := 2) rfl))) (mvT hZ (hw _ (List.mem_of_getElem? (i := 3) rfl))) (mvT hZ (hw _ (List.mem_of_getElem? (i := 4) rfl))) (mvT hZ (hw _ (List.mem_of_getElem? (i := 5) rfl))) (by decide) (backOf (W := 0) (rm1c l Z a0 hw [] b53 (nar .byte ((((i1 &&& (65535 : Int32)).toUInt32 >>> ((8 : Int32) &&& 31).toUInt32).toInt32).toInt8.toInt32)) (nar .byte ((i1 &&& (65535 : Int32)).toInt8.toInt32)) (nar .byte (i4.toInt8.toInt32)) k53 h59 n0 (Nat.le_trans Z0 K60.1) V59) hZ (hw _ (List.mem_of_getElem? (i := 5) rfl)) (hw _ (List.mem_of_getElem? (i := 4) rfl)) (by decide) (by decide)) (g := (mkF m 147 #[.val (.int i1), .val (.int i2), .val (.int i3), .val (.int i4), .val (.int i5), .val (.int (1 : Int32)), .val (.int (1 : Int32)), .val (.int (3 : Int32)), .val (.int (i1 &&& (65535 : Int32))), .val (.int (i2 &&& (65535 : Int32))), .val (.int (i3 &&& (65535 : Int32))), .val (.ref b53), .unset, .unset] [(.ref b53)])) rfl (by rw [hml]; rfl) (argsL := [(.ref b53)]) (rest := []) (lenOf pd_0 rfl) rfl (by show 2 * 0 + _ ≤ _; exact Nat.le_of_eq rfl) (hb hby at_147) (fun _ _ => ⟨rfl, e59, (by decide : 1 + 1 ≤ _), (by decide : 3 + 1 ≤ _)⟩)
      dsimp only [Pt.U, Pt.locs, Pt.cells, Pt.slots] at X61 l61 y61 z61 st61 hQ61
      subst l61 y61 z61
      obtain ⟨b61_0, k61_1, rfl, Nq61, Kq61, sq61_0, f61_0⟩ := hQ61
      have sz_b61_0 : h0.size ≤ b61_0 := Nat.le_trans K60.1 sq61_0
      have K62 : Keep h0 T61.heap [] := K60.trans Kq61 all0
      have N61 := Fr.app N59 Nq61
      obtain ⟨cl63, Ar63, -, Sz63, Nn63, -, -⟩ := id f61_0
      obtain ⟨cl64, Ar64, Cq64, Sz64, Nn64, Hh64, Gg64⟩ := id f61_0
      have hin64 : ¬ ((0 : Int32) < 0 ∨ cl64.slots.size ≤ ((0 : Int32)).toNatClampNeg) := inb_of Sz64 ⟨by decide, by decide⟩
      have hat64 : cl64.slots[((0 : Int32)).toNatClampNeg]? = some (.int (nar .char (((((nar .byte ((((i1 &&& (65535 : Int32)).toUInt32 >>> ((8 : Int32) &&& 31).toUInt32).toInt32).toInt8.toInt32)) &&& (255 : Int32)) <<< ((8 : Int32) &&& 31)) ||| ((nar .byte ((i1 &&& (65535 : Int32)).toInt8.toInt32)) &&& (255 : Int32))).toUInt32.toUInt16.toUInt32.toInt32))) := Hh64.at hin64 rfl
      have pre65 : ∀ t, Steps p.tables e below (T61.setTop (mkF m 181 #[.val (.int i1), .val (.int i2), .val (.int i3), .val (.int i4), .val (.int i5), .val (.int (1 : Int32)), .val (.int (1 : Int32)), .val (.int (3 : Int32)), .val (.int (i1 &&& (65535 : Int32))), .val (.int (i2 &&& (65535 : Int32))), .val (.int (i3 &&& (65535 : Int32))), .val (.ref b53), .val (.ref b61_0), .val (.int (1 : Int32))] [(.int (i1 &&& (65535 : Int32))), (.int (nar .char (((((nar .byte ((((i1 &&& (65535 : Int32)).toUInt32 >>> ((8 : Int32) &&& 31).toUInt32).toInt32).toInt8.toInt32)) &&& (255 : Int32)) <<< ((8 : Int32) &&& 31)) ||| ((nar .byte ((i1 &&& (65535 : Int32)).toInt8.toInt32)) &&& (255 : Int32))).toUInt32.toUInt16.toUInt32.toInt32)))])) t → Steps p.tables e below (s₁.setTop (entryFrame m #[(.int i1), (.int i2), (.int i3), (.int i4), (.int i5)] maxLocals)) t := by
        intro t k
        refine pre52 _ ?_
        show Steps p.tables e below (s₁.setTop (mkF m 22 #[.val (.int i1), .val (.int i2), .val (.int i3), .val (.int i4), .val (.int i5), .val (.int (1 : Int32)), .val (.int (1 : Int32)), .unset, .unset, .unset, .unset, .unset, .unset, .unset] [])) _
        refine XS.iconst X0.here hx rfl (hb hby at_22) ?_
        show Steps p.tables e below (s₁.setTop (mkF m 23 #[.val (.int i1), .val (.int i2), .val (.int i3), .val (.int i4), .val (.int i5), .val (.int (1 : Int32)), .val (.int (1 : Int32)), .unset, .unset, .unset, .unset, .unset, .unset, .unset] [(.int (2 : Int32))])) _
        refine XS.iload X0.here hx rfl (hb hby at_23) rfl ?_
        show Steps p.tables e below (s₁.setTop (mkF m 25 #[.val (.int i1), .val (.int i2), .val (.int i3), .val (.int i4), .val (.int i5), .val (.int (1 : Int32)), .val (.int (1 : Int32)), .unset, .unset, .unset, .unset, .unset, .unset, .unset] [(.int (1 : Int32)), (.int (2 : Int32))])) _
        refine XS.imul X0.here hx rfl (hb hby at_25) rfl ?_
        show Steps p.tables e below (s₁.setTop (mkF m 26 #[.val (.int i1), .val (.int i2), .val (.int i3), .val (.int i4), .val (.int i5), .val (.int (1 : Int32)), .val (.int (1 : Int32)), .unset, .unset, .unset, .unset, .unset, .unset, .unset] [(.int (2 : Int32))])) _
        refine XS.iload X0.here hx rfl (hb hby at_26) rfl ?_
        show Steps p.tables e below (s₁.setTop (mkF m 28 #[.val (.int i1), .val (.int i2), .val (.int i3), .val (.int i4), .val (.int i5), .val (.int (1 : Int32)), .val (.int (1 : Int32)), .unset, .unset, .unset, .unset, .unset, .unset, .unset] [(.int (1 : Int32)), (.int (2 : Int32))])) _
        refine XS.ifNo X0.here hx rfl (hb hby at_28) rfl ((if0 _ _).trans (feq (by decide : ¬ ((1 : Int32) = (0 : Int32)))).1) ?_
        show Steps p.tables e below (s₁.setTop (mkF m 31 #[.val (.int i1), .val (.int i2), .val (.int i3), .val (.int i4), .val (.int i5), .val (.int (1 : Int32)), .val (.int (1 : Int32)), .unset, .unset, .unset, .unset, .unset, .unset, .unset] [(.int (2 : Int32))])) _
        refine XS.iconst X0.here hx rfl (hb hby at_31) ?_
        show Steps p.tables e below (s₁.setTop (mkF m 32 #[.val (.int i1), .val (.int i2), .val (.int i3), .val (.int i4), .val (.int i5), .val (.int (1 : Int32)), .val (.int (1 : Int32)), .unset, .unset, .unset, .unset, .unset, .unset, .unset] [(.int (1 : Int32)), (.int (2 : Int32))])) _
        refine XS.goto X0.here hx rfl (pc0 := 32) (pc' := 36) rfl (hb hby at_32) (by decide) (by decide) ?_
        show Steps p.tables e below (s₁.setTop (mkF m 36 #[.val (.int i1), .val (.int i2), .val (.int i3), .val (.int i4), .val (.int i5), .val (.int (1 : Int32)), .val (.int (1 : Int32)), .unset, .unset, .unset, .unset, .unset, .unset, .unset] [(.int (1 : Int32)), (.int (2 : Int32))])) _
        refine XS.iadd X0.here hx rfl (hb hby at_36) rfl ?_
        show Steps p.tables e below (s₁.setTop (mkF m 37 #[.val (.int i1), .val (.int i2), .val (.int i3), .val (.int i4), .val (.int i5), .val (.int (1 : Int32)), .val (.int (1 : Int32)), .unset, .unset, .unset, .unset, .unset, .unset, .unset] [(.int (3 : Int32))])) _
        refine XS.istore X0.here hx rfl (hb hby at_37) rfl (l' := #[.val (.int i1), .val (.int i2), .val (.int i3), .val (.int i4), .val (.int i5), .val (.int (1 : Int32)), .val (.int (1 : Int32)), .val (.int (3 : Int32)), .unset, .unset, .unset, .unset, .unset, .unset]) rfl ?_
        show Steps p.tables e below (s₁.setTop (mkF m 39 #[.val (.int i1), .val (.int i2), .val (.int i3), .val (.int i4), .val (.int i5), .val (.int (1 : Int32)), .val (.int (1 : Int32)), .val (.int (3 : Int32)), .unset, .unset, .unset, .unset, .unset, .unset] [])) _
        refine XS.iloadN X0.here hx rfl (hb hby at_39) rfl ?_
        show Steps p.tables e below (s₁.setTop (mkF m 40 #[.val (.int i1), .val (.int i2), .val (.int i3), .val (.int i4), .val (.int i5), .val (.int (1 : Int32)), .val (.int (1 : Int32)), .val (.int (3 : Int32)), .unset, .unset, .unset, .unset, .unset, .unset] [(.int i1)])) _
        refine X0.ldcInt hx hown (mvT hZ (hw _ (List.mem_of_getElem? (i := 0) rfl))) (g := (mkF m 40 #[.val (.int i1), .val (.int i2), .val (.int i3), .val (.int i4), .val (.int i5), .val (.int (1 : Int32)), .val (.int (1 : Int32)), .val (.int (3 : Int32)), .unset, .unset, .unset, .unset, .unset, .unset] [(.int i1)])) rfl (hb hby at_40) _ ?_
        show Steps p.tables e below (s₁.setTop (mkF m 42 #[.val (.int i1), .val (.int i2), .val (.int i3), .val (.int i4), .val (.int i5), .val (.int (1 : Int32)), .val (.int (1 : Int32)), .val (.int (3 : Int32)), .unset, .unset, .unset, .unset, .unset, .unset] [(.int (65535 : Int32)), (.int i1)])) _
        refine XS.iand X0.here hx rfl (hb hby at_42) rfl ?_
        show Steps p.tables e below (s₁.setTop (mkF m 43 #[.val (.int i1), .val (.int i2), .val (.int i3), .val (.int i4), .val (.int i5), .val (.int (1 : Int32)), .val (.int (1 : Int32)), .val (.int (3 : Int32)), .unset, .unset, .unset, .unset, .unset, .unset] [(.int (i1 &&& (65535 : Int32)))])) _
        refine XS.istore X0.here hx rfl (hb hby at_43) rfl (l' := #[.val (.int i1), .val (.int i2), .val (.int i3), .val (.int i4), .val (.int i5), .val (.int (1 : Int32)), .val (.int (1 : Int32)), .val (.int (3 : Int32)), .val (.int (i1 &&& (65535 : Int32))), .unset, .unset, .unset, .unset, .unset]) rfl ?_
        show Steps p.tables e below (s₁.setTop (mkF m 45 #[.val (.int i1), .val (.int i2), .val (.int i3), .val (.int i4), .val (.int i5), .val (.int (1 : Int32)), .val (.int (1 : Int32)), .val (.int (3 : Int32)), .val (.int (i1 &&& (65535 : Int32))), .unset, .unset, .unset, .unset, .unset] [])) _
        refine XS.iloadN X0.here hx rfl (hb hby at_45) rfl ?_
        show Steps p.tables e below (s₁.setTop (mkF m 46 #[.val (.int i1), .val (.int i2), .val (.int i3), .val (.int i4), .val (.int i5), .val (.int (1 : Int32)), .val (.int (1 : Int32)), .val (.int (3 : Int32)), .val (.int (i1 &&& (65535 : Int32))), .unset, .unset, .unset, .unset, .unset] [(.int i2)])) _
        refine X0.ldcInt hx hown (mvT hZ (hw _ (List.mem_of_getElem? (i := 0) rfl))) (g := (mkF m 46 #[.val (.int i1), .val (.int i2), .val (.int i3), .val (.int i4), .val (.int i5), .val (.int (1 : Int32)), .val (.int (1 : Int32)), .val (.int (3 : Int32)), .val (.int (i1 &&& (65535 : Int32))), .unset, .unset, .unset, .unset, .unset] [(.int i2)])) rfl (hb hby at_46) _ ?_
        show Steps p.tables e below (s₁.setTop (mkF m 48 #[.val (.int i1), .val (.int i2), .val (.int i3), .val (.int i4), .val (.int i5), .val (.int (1 : Int32)), .val (.int (1 : Int32)), .val (.int (3 : Int32)), .val (.int (i1 &&& (65535 : Int32))), .unset, .unset, .unset, .unset, .unset] [(.int (65535 : Int32)), (.int i2)])) _
        refine XS.iand X0.here hx rfl (hb hby at_48) rfl ?_
        show Steps p.tables e below (s₁.setTop (mkF m 49 #[.val (.int i1), .val (.int i2), .val (.int i3), .val (.int i4), .val (.int i5), .val (.int (1 : Int32)), .val (.int (1 : Int32)), .val (.int (3 : Int32)), .val (.int (i1 &&& (65535 : Int32))), .unset, .unset, .unset, .unset, .unset] [(.int (i2 &&& (65535 : Int32)))])) _
        refine XS.istore X0.here hx rfl (hb hby at_49) rfl (l' := #[.val (.int i1), .val (.int i2), .val (.int i3), .val (.int i4), .val (.int i5), .val (.int (1 : Int32)), .val (.int (1 : Int32)), .val (.int (3 : Int32)), .val (.int (i1 &&& (65535 : Int32))), .val (.int (i2 &&& (65535 : Int32))), .unset, .unset, .unset, .unset]) rfl ?_
        show Steps p.tables e below (s₁.setTop (mkF m 51 #[.val (.int i1), .val (.int i2), .val (.int i3), .val (.int i4), .val (.int i5), .val (.int (1 : Int32)), .val (.int (1 : Int32)), .val (.int (3 : Int32)), .val (.int (i1 &&& (65535 : Int32))), .val (.int (i2 &&& (65535 : Int32))), .unset, .unset, .unset, .unset] [])) _
        refine XS.iloadN X0.here hx rfl (hb hby at_51) rfl ?_
        show Steps p.tables e below (s₁.setTop (mkF m 52 #[.val (.int i1), .val (.int i2), .val (.int i3), .val (.int i4), .val (.int i5), .val (.int (1 : Int32)), .val (.int (1 : Int32)), .val (.int (3 : Int32)), .val (.int (i1 &&& (65535 : Int32))), .val (.int (i2 &&& (65535 : Int32))), .unset, .unset, .unset, .unset] [(.int i3)])) _
        refine X0.ldcInt hx hown (mvT hZ (hw _ (List.mem_of_getElem? (i := 0) rfl))) (g := (mkF m 52 #[.val (.int i1), .val (.int i2), .val (.int i3), .val (.int i4), .val (.int i5), .val (.int (1 : Int32)), .val (.int (1 : Int32)), .val (.int (3 : Int32)), .val (.int (i1 &&& (65535 : Int32))), .val (.int (i2 &&& (65535 : Int32))), .unset, .unset, .unset, .unset] [(.int i3)])) rfl (hb hby at_52) _ ?_
        show Steps p.tables e below (s₁.setTop (mkF m 54 #[.val (.int i1), .val (.int i2), .val (.int i3), .val (.int i4), .val (.int i5), .val (.int (1 : Int32)), .val (.int (1 : Int32)), .val (.int (3 : Int32)), .val (.int (i1 &&& (65535 : Int32))), .val (.int (i2 &&& (65535 : Int32))), .unset, .unset, .unset, .unset] [(.int (65535 : Int32)), (.int i3)])) _
        refine XS.iand X0.here hx rfl (hb hby at_54) rfl ?_
        show Steps p.tables e below (s₁.setTop (mkF m 55 #[.val (.int i1), .val (.int i2), .val (.int i3), .val (.int i4), .val (.int i5), .val (.int (1 : Int32)), .val (.int (1 : Int32)), .val (.int (3 : Int32)), .val (.int (i1 &&& (65535 : Int32))), .val (.int (i2 &&& (65535 : Int32))), .unset, .unset, .unset, .unset] [(.int (i3 &&& (65535 : Int32)))])) _
        refine XS.istore X0.here hx rfl (hb hby at_55) rfl (l' := #[.val (.int i1), .val (.int i2), .val (.int i3), .val (.int i4), .val (.int i5), .val (.int (1 : Int32)), .val (.int (1 : Int32)), .val (.int (3 : Int32)), .val (.int (i1 &&& (65535 : Int32))), .val (.int (i2 &&& (65535 : Int32))), .val (.int (i3 &&& (65535 : Int32))), .unset, .unset, .unset]) rfl ?_
        show Steps p.tables e below (s₁.setTop (mkF m 57 #[.val (.int i1), .val (.int i2), .val (.int i3), .val (.int i4), .val (.int i5), .val (.int (1 : Int32)), .val (.int (1 : Int32)), .val (.int (3 : Int32)), .val (.int (i1 &&& (65535 : Int32))), .val (.int (i2 &&& (65535 : Int32))), .val (.int (i3 &&& (65535 : Int32))), .unset, .unset, .unset] [])) _
        refine XS.iload X0.here hx rfl (hb hby at_57) rfl ?_
        show Steps p.tables e below (s₁.setTop (mkF m 59 #[.val (.int i1), .val (.int i2), .val (.int i3), .val (.int i4), .val (.int i5), .val (.int (1 : Int32)), .val (.int (1 : Int32)), .val (.int (3 : Int32)), .val (.int (i1 &&& (65535 : Int32))), .val (.int (i2 &&& (65535 : Int32))), .val (.int (i3 &&& (65535 : Int32))), .unset, .unset, .unset] [(.int (3 : Int32))])) _
        refine st53 _ ?_
        show Steps p.tables e below (T53.setTop (mkF m 61 #[.val (.int i1), .val (.int i2), .val (.int i3), .val (.int i4), .val (.int i5), .val (.int (1 : Int32)), .val (.int (1 : Int32)), .val (.int (3 : Int32)), .val (.int (i1 &&& (65535 : Int32))), .val (.int (i2 &&& (65535 : Int32))), .val (.int (i3 &&& (65535 : Int32))), .unset, .unset, .unset] [(.ref b53)])) _
        refine XS.astore X53.here hx rfl (hb hby at_61) rfl rfl (l' := #[.val (.int i1), .val (.int i2), .val (.int i3), .val (.int i4), .val (.int i5), .val (.int (1 : Int32)), .val (.int (1 : Int32)), .val (.int (3 : Int32)), .val (.int (i1 &&& (65535 : Int32))), .val (.int (i2 &&& (65535 : Int32))), .val (.int (i3 &&& (65535 : Int32))), .val (.ref b53), .unset, .unset]) rfl ?_
        show Steps p.tables e below (T53.setTop (mkF m 63 #[.val (.int i1), .val (.int i2), .val (.int i3), .val (.int i4), .val (.int i5), .val (.int (1 : Int32)), .val (.int (1 : Int32)), .val (.int (3 : Int32)), .val (.int (i1 &&& (65535 : Int32))), .val (.int (i2 &&& (65535 : Int32))), .val (.int (i3 &&& (65535 : Int32))), .val (.ref b53), .unset, .unset] [])) _
        refine XS.iload X53.here hx rfl (hb hby at_63) rfl ?_
        show Steps p.tables e below (T53.setTop (mkF m 65 #[.val (.int i1), .val (.int i2), .val (.int i3), .val (.int i4), .val (.int i5), .val (.int (1 : Int32)), .val (.int (1 : Int32)), .val (.int (3 : Int32)), .val (.int (i1 &&& (65535 : Int32))), .val (.int (i2 &&& (65535 : Int32))), .val (.int (i3 &&& (65535 : Int32))), .val (.ref b53), .unset, .unset] [(.int (1 : Int32))])) _
        refine XS.ifNo X53.here hx rfl (hb hby at_65) rfl ((if0 _ _).trans (tlt (by decide : (0 : Int32) < (1 : Int32))).2.2.2) ?_
        show Steps p.tables e below (T53.setTop (mkF m 68 #[.val (.int i1), .val (.int i2), .val (.int i3), .val (.int i4), .val (.int i5), .val (.int (1 : Int32)), .val (.int (1 : Int32)), .val (.int (3 : Int32)), .val (.int (i1 &&& (65535 : Int32))), .val (.int (i2 &&& (65535 : Int32))), .val (.int (i3 &&& (65535 : Int32))), .val (.ref b53), .unset, .unset] [])) _
        refine XS.aload X53.here hx rfl (hb hby at_68) rfl rfl ?_
        show Steps p.tables e below (T53.setTop (mkF m 70 #[.val (.int i1), .val (.int i2), .val (.int i3), .val (.int i4), .val (.int i5), .val (.int (1 : Int32)), .val (.int (1 : Int32)), .val (.int (3 : Int32)), .val (.int (i1 &&& (65535 : Int32))), .val (.int (i2 &&& (65535 : Int32))), .val (.int (i3 &&& (65535 : Int32))), .val (.ref b53), .unset, .unset] [(.ref b53)])) _
        refine XS.iconst X53.here hx rfl (hb hby at_70) ?_
        show Steps p.tables e below (T53.setTop (mkF m 71 #[.val (.int i1), .val (.int i2), .val (.int i3), .val (.int i4), .val (.int i5), .val (.int (1 : Int32)), .val (.int (1 : Int32)), .val (.int (3 : Int32)), .val (.int (i1 &&& (65535 : Int32))), .val (.int (i2 &&& (65535 : Int32))), .val (.int (i3 &&& (65535 : Int32))), .val (.ref b53), .unset, .unset] [(.int (0 : Int32)), (.ref b53)])) _
        refine XS.iload X53.here hx rfl (hb hby at_71) rfl ?_
        show Steps p.tables e below (T53.setTop (mkF m 73 #[.val (.int i1), .val (.int i2), .val (.int i3), .val (.int i4), .val (.int i5), .val (.int (1 : Int32)), .val (.int (1 : Int32)), .val (.int (3 : Int32)), .val (.int (i1 &&& (65535 : Int32))), .val (.int (i2 &&& (65535 : Int32))), .val (.int (i3 &&& (65535 : Int32))), .val (.ref b53), .unset, .unset] [(.int (i1 &&& (65535 : Int32))), (.int (0 : Int32)), (.ref b53)])) _
        refine XS.bipush X53.here hx rfl (hb hby at_73) ?_
        show Steps p.tables e below (T53.setTop (mkF m 75 #[.val (.int i1), .val (.int i2), .val (.int i3), .val (.int i4), .val (.int i5), .val (.int (1 : Int32)), .val (.int (1 : Int32)), .val (.int (3 : Int32)), .val (.int (i1 &&& (65535 : Int32))), .val (.int (i2 &&& (65535 : Int32))), .val (.int (i3 &&& (65535 : Int32))), .val (.ref b53), .unset, .unset] [(.int (8 : Int32)), (.int (i1 &&& (65535 : Int32))), (.int (0 : Int32)), (.ref b53)])) _
        refine XS.iushr X53.here hx rfl (hb hby at_75) rfl ?_
        show Steps p.tables e below (T53.setTop (mkF m 76 #[.val (.int i1), .val (.int i2), .val (.int i3), .val (.int i4), .val (.int i5), .val (.int (1 : Int32)), .val (.int (1 : Int32)), .val (.int (3 : Int32)), .val (.int (i1 &&& (65535 : Int32))), .val (.int (i2 &&& (65535 : Int32))), .val (.int (i3 &&& (65535 : Int32))), .val (.ref b53), .unset, .unset] [(.int (((i1 &&& (65535 : Int32)).toUInt32 >>> ((8 : Int32) &&& 31).toUInt32).toInt32)), (.int (0 : Int32)), (.ref b53)])) _
        refine XS.i2b X53.here hx rfl (hb hby at_76) rfl ?_
        show Steps p.tables e below (T53.setTop (mkF m 77 #[.val (.int i1), .val (.int i2), .val (.int i3), .val (.int i4), .val (.int i5), .val (.int (1 : Int32)), .val (.int (1 : Int32)), .val (.int (3 : Int32)), .val (.int (i1 &&& (65535 : Int32))), .val (.int (i2 &&& (65535 : Int32))), .val (.int (i3 &&& (65535 : Int32))), .val (.ref b53), .unset, .unset] [(.int ((((i1 &&& (65535 : Int32)).toUInt32 >>> ((8 : Int32) &&& 31).toUInt32).toInt32).toInt8.toInt32)), (.int (0 : Int32)), (.ref b53)])) _
        refine st55 _ ?_
        show Steps p.tables e below (T55.setTop (mkF m 78 #[.val (.int i1), .val (.int i2), .val (.int i3), .val (.int i4), .val (.int i5), .val (.int (1 : Int32)), .val (.int (1 : Int32)), .val (.int (3 : Int32)), .val (.int (i1 &&& (65535 : Int32))), .val (.int (i2 &&& (65535 : Int32))), .val (.int (i3 &&& (65535 : Int32))), .val (.ref b53), .unset, .unset] [])) _
        refine XS.aload X55.here hx rfl (hb hby at_78) rfl rfl ?_
        show Steps p.tables e below (T55.setTop (mkF m 80 #[.val (.int i1), .val (.int i2), .val (.int i3), .val (.int i4), .val (.int i5), .val (.int (1 : Int32)), .val (.int (1 : Int32)), .val (.int (3 : Int32)), .val (.int (i1 &&& (65535 : Int32))), .val (.int (i2 &&& (65535 : Int32))), .val (.int (i3 &&& (65535 : Int32))), .val (.ref b53), .unset, .unset] [(.ref b53)])) _
        refine XS.iconst X55.here hx rfl (hb hby at_80) ?_
        show Steps p.tables e below (T55.setTop (mkF m 81 #[.val (.int i1), .val (.int i2), .val (.int i3), .val (.int i4), .val (.int i5), .val (.int (1 : Int32)), .val (.int (1 : Int32)), .val (.int (3 : Int32)), .val (.int (i1 &&& (65535 : Int32))), .val (.int (i2 &&& (65535 : Int32))), .val (.int (i3 &&& (65535 : Int32))), .val (.ref b53), .unset, .unset] [(.int (1 : Int32)), (.ref b53)])) _
        refine XS.iload X55.here hx rfl (hb hby at_81) rfl ?_
        show Steps p.tables e below (T55.setTop (mkF m 83 #[.val (.int i1), .val (.int i2), .val (.int i3), .val (.int i4), .val (.int i5), .val (.int (1 : Int32)), .val (.int (1 : Int32)), .val (.int (3 : Int32)), .val (.int (i1 &&& (65535 : Int32))), .val (.int (i2 &&& (65535 : Int32))), .val (.int (i3 &&& (65535 : Int32))), .val (.ref b53), .unset, .unset] [(.int (i1 &&& (65535 : Int32))), (.int (1 : Int32)), (.ref b53)])) _
        refine XS.i2b X55.here hx rfl (hb hby at_83) rfl ?_
        show Steps p.tables e below (T55.setTop (mkF m 84 #[.val (.int i1), .val (.int i2), .val (.int i3), .val (.int i4), .val (.int i5), .val (.int (1 : Int32)), .val (.int (1 : Int32)), .val (.int (3 : Int32)), .val (.int (i1 &&& (65535 : Int32))), .val (.int (i2 &&& (65535 : Int32))), .val (.int (i3 &&& (65535 : Int32))), .val (.ref b53), .unset, .unset] [(.int ((i1 &&& (65535 : Int32)).toInt8.toInt32)), (.int (1 : Int32)), (.ref b53)])) _
        refine st57 _ ?_
        show Steps p.tables e below (T57.setTop (mkF m 85 #[.val (.int i1), .val (.int i2), .val (.int i3), .val (.int i4), .val (.int i5), .val (.int (1 : Int32)), .val (.int (1 : Int32)), .val (.int (3 : Int32)), .val (.int (i1 &&& (65535 : Int32))), .val (.int (i2 &&& (65535 : Int32))), .val (.int (i3 &&& (65535 : Int32))), .val (.ref b53), .unset, .unset] [])) _
        refine XS.iload X57.here hx rfl (hb hby at_85) rfl ?_
        show Steps p.tables e below (T57.setTop (mkF m 87 #[.val (.int i1), .val (.int i2), .val (.int i3), .val (.int i4), .val (.int i5), .val (.int (1 : Int32)), .val (.int (1 : Int32)), .val (.int (3 : Int32)), .val (.int (i1 &&& (65535 : Int32))), .val (.int (i2 &&& (65535 : Int32))), .val (.int (i3 &&& (65535 : Int32))), .val (.ref b53), .unset, .unset] [(.int (1 : Int32))])) _
        refine XS.iconst X57.here hx rfl (hb hby at_87) ?_
        show Steps p.tables e below (T57.setTop (mkF m 88 #[.val (.int i1), .val (.int i2), .val (.int i3), .val (.int i4), .val (.int i5), .val (.int (1 : Int32)), .val (.int (1 : Int32)), .val (.int (3 : Int32)), .val (.int (i1 &&& (65535 : Int32))), .val (.int (i2 &&& (65535 : Int32))), .val (.int (i3 &&& (65535 : Int32))), .val (.ref b53), .unset, .unset] [(.int (1 : Int32)), (.int (1 : Int32))])) _
        refine XS.icmpYes X57.here hx rfl (pc0 := 88) (pc' := 108) rfl (hb hby at_88) rfl (flt (by decide : ¬ ((1 : Int32) < (1 : Int32)))).2.2.2 (by decide) (by decide) ?_
        show Steps p.tables e below (T57.setTop (mkF m 108 #[.val (.int i1), .val (.int i2), .val (.int i3), .val (.int i4), .val (.int i5), .val (.int (1 : Int32)), .val (.int (1 : Int32)), .val (.int (3 : Int32)), .val (.int (i1 &&& (65535 : Int32))), .val (.int (i2 &&& (65535 : Int32))), .val (.int (i3 &&& (65535 : Int32))), .val (.ref b53), .unset, .unset] [])) _
        refine XS.iload X57.here hx rfl (hb hby at_108) rfl ?_
        show Steps p.tables e below (T57.setTop (mkF m 110 #[.val (.int i1), .val (.int i2), .val (.int i3), .val (.int i4), .val (.int i5), .val (.int (1 : Int32)), .val (.int (1 : Int32)), .val (.int (3 : Int32)), .val (.int (i1 &&& (65535 : Int32))), .val (.int (i2 &&& (65535 : Int32))), .val (.int (i3 &&& (65535 : Int32))), .val (.ref b53), .unset, .unset] [(.int (1 : Int32))])) _
        refine XS.iconst X57.here hx rfl (hb hby at_110) ?_
        show Steps p.tables e below (T57.setTop (mkF m 111 #[.val (.int i1), .val (.int i2), .val (.int i3), .val (.int i4), .val (.int i5), .val (.int (1 : Int32)), .val (.int (1 : Int32)), .val (.int (3 : Int32)), .val (.int (i1 &&& (65535 : Int32))), .val (.int (i2 &&& (65535 : Int32))), .val (.int (i3 &&& (65535 : Int32))), .val (.ref b53), .unset, .unset] [(.int (2 : Int32)), (.int (1 : Int32))])) _
        refine XS.icmpYes X57.here hx rfl (pc0 := 111) (pc' := 131) rfl (hb hby at_111) rfl (flt (by decide : ¬ ((2 : Int32) < (1 : Int32)))).2.2.2 (by decide) (by decide) ?_
        show Steps p.tables e below (T57.setTop (mkF m 131 #[.val (.int i1), .val (.int i2), .val (.int i3), .val (.int i4), .val (.int i5), .val (.int (1 : Int32)), .val (.int (1 : Int32)), .val (.int (3 : Int32)), .val (.int (i1 &&& (65535 : Int32))), .val (.int (i2 &&& (65535 : Int32))), .val (.int (i3 &&& (65535 : Int32))), .val (.ref b53), .unset, .unset] [])) _
        refine XS.iload X57.here hx rfl (hb hby at_131) rfl ?_
        show Steps p.tables e below (T57.setTop (mkF m 133 #[.val (.int i1), .val (.int i2), .val (.int i3), .val (.int i4), .val (.int i5), .val (.int (1 : Int32)), .val (.int (1 : Int32)), .val (.int (3 : Int32)), .val (.int (i1 &&& (65535 : Int32))), .val (.int (i2 &&& (65535 : Int32))), .val (.int (i3 &&& (65535 : Int32))), .val (.ref b53), .unset, .unset] [(.int (1 : Int32))])) _
        refine XS.ifNo X57.here hx rfl (hb hby at_133) rfl ((if0 _ _).trans (feq (by decide : ¬ ((1 : Int32) = (0 : Int32)))).1) ?_
        show Steps p.tables e below (T57.setTop (mkF m 136 #[.val (.int i1), .val (.int i2), .val (.int i3), .val (.int i4), .val (.int i5), .val (.int (1 : Int32)), .val (.int (1 : Int32)), .val (.int (3 : Int32)), .val (.int (i1 &&& (65535 : Int32))), .val (.int (i2 &&& (65535 : Int32))), .val (.int (i3 &&& (65535 : Int32))), .val (.ref b53), .unset, .unset] [])) _
        refine XS.aload X57.here hx rfl (hb hby at_136) rfl rfl ?_
        show Steps p.tables e below (T57.setTop (mkF m 138 #[.val (.int i1), .val (.int i2), .val (.int i3), .val (.int i4), .val (.int i5), .val (.int (1 : Int32)), .val (.int (1 : Int32)), .val (.int (3 : Int32)), .val (.int (i1 &&& (65535 : Int32))), .val (.int (i2 &&& (65535 : Int32))), .val (.int (i3 &&& (65535 : Int32))), .val (.ref b53), .unset, .unset] [(.ref b53)])) _
        refine XS.iconst X57.here hx rfl (hb hby at_138) ?_
        show Steps p.tables e below (T57.setTop (mkF m 139 #[.val (.int i1), .val (.int i2), .val (.int i3), .val (.int i4), .val (.int i5), .val (.int (1 : Int32)), .val (.int (1 : Int32)), .val (.int (3 : Int32)), .val (.int (i1 &&& (65535 : Int32))), .val (.int (i2 &&& (65535 : Int32))), .val (.int (i3 &&& (65535 : Int32))), .val (.ref b53), .unset, .unset] [(.int (2 : Int32)), (.ref b53)])) _
        refine XS.iload X57.here hx rfl (hb hby at_139) rfl ?_
        show Steps p.tables e below (T57.setTop (mkF m 141 #[.val (.int i1), .val (.int i2), .val (.int i3), .val (.int i4), .val (.int i5), .val (.int (1 : Int32)), .val (.int (1 : Int32)), .val (.int (3 : Int32)), .val (.int (i1 &&& (65535 : Int32))), .val (.int (i2 &&& (65535 : Int32))), .val (.int (i3 &&& (65535 : Int32))), .val (.ref b53), .unset, .unset] [(.int (1 : Int32)), (.int (2 : Int32)), (.ref b53)])) _
        refine XS.imul X57.here hx rfl (hb hby at_141) rfl ?_
        show Steps p.tables e below (T57.setTop (mkF m 142 #[.val (.int i1), .val (.int i2), .val (.int i3), .val (.int i4), .val (.int i5), .val (.int (1 : Int32)), .val (.int (1 : Int32)), .val (.int (3 : Int32)), .val (.int (i1 &&& (65535 : Int32))), .val (.int (i2 &&& (65535 : Int32))), .val (.int (i3 &&& (65535 : Int32))), .val (.ref b53), .unset, .unset] [(.int (2 : Int32)), (.ref b53)])) _
        refine XS.iloadN X57.here hx rfl (hb hby at_142) rfl ?_
        show Steps p.tables e below (T57.setTop (mkF m 143 #[.val (.int i1), .val (.int i2), .val (.int i3), .val (.int i4), .val (.int i5), .val (.int (1 : Int32)), .val (.int (1 : Int32)), .val (.int (3 : Int32)), .val (.int (i1 &&& (65535 : Int32))), .val (.int (i2 &&& (65535 : Int32))), .val (.int (i3 &&& (65535 : Int32))), .val (.ref b53), .unset, .unset] [(.int i4), (.int (2 : Int32)), (.ref b53)])) _
        refine XS.i2b X57.here hx rfl (hb hby at_143) rfl ?_
        show Steps p.tables e below (T57.setTop (mkF m 144 #[.val (.int i1), .val (.int i2), .val (.int i3), .val (.int i4), .val (.int i5), .val (.int (1 : Int32)), .val (.int (1 : Int32)), .val (.int (3 : Int32)), .val (.int (i1 &&& (65535 : Int32))), .val (.int (i2 &&& (65535 : Int32))), .val (.int (i3 &&& (65535 : Int32))), .val (.ref b53), .unset, .unset] [(.int (i4.toInt8.toInt32)), (.int (2 : Int32)), (.ref b53)])) _
        refine st59 _ ?_
        show Steps p.tables e below (T59.setTop (mkF m 145 #[.val (.int i1), .val (.int i2), .val (.int i3), .val (.int i4), .val (.int i5), .val (.int (1 : Int32)), .val (.int (1 : Int32)), .val (.int (3 : Int32)), .val (.int (i1 &&& (65535 : Int32))), .val (.int (i2 &&& (65535 : Int32))), .val (.int (i3 &&& (65535 : Int32))), .val (.ref b53), .unset, .unset] [])) _
        refine XS.aload X59.here hx rfl (hb hby at_145) rfl rfl ?_
        show Steps p.tables e below (T59.setTop (mkF m 147 #[.val (.int i1), .val (.int i2), .val (.int i3), .val (.int i4), .val (.int i5), .val (.int (1 : Int32)), .val (.int (1 : Int32)), .val (.int (3 : Int32)), .val (.int (i1 &&& (65535 : Int32))), .val (.int (i2 &&& (65535 : Int32))), .val (.int (i3 &&& (65535 : Int32))), .val (.ref b53), .unset, .unset] [(.ref b53)])) _
        refine st61 _ ?_
        show Steps p.tables e below (T61.setTop (mkF m 150 #[.val (.int i1), .val (.int i2), .val (.int i3), .val (.int i4), .val (.int i5), .val (.int (1 : Int32)), .val (.int (1 : Int32)), .val (.int (3 : Int32)), .val (.int (i1 &&& (65535 : Int32))), .val (.int (i2 &&& (65535 : Int32))), .val (.int (i3 &&& (65535 : Int32))), .val (.ref b53), .unset, .unset] [(.ref b61_0)])) _
        refine XS.astore X61.here hx rfl (hb hby at_150) rfl rfl (l' := #[.val (.int i1), .val (.int i2), .val (.int i3), .val (.int i4), .val (.int i5), .val (.int (1 : Int32)), .val (.int (1 : Int32)), .val (.int (3 : Int32)), .val (.int (i1 &&& (65535 : Int32))), .val (.int (i2 &&& (65535 : Int32))), .val (.int (i3 &&& (65535 : Int32))), .val (.ref b53), .val (.ref b61_0), .unset]) rfl ?_
        show Steps p.tables e below (T61.setTop (mkF m 152 #[.val (.int i1), .val (.int i2), .val (.int i3), .val (.int i4), .val (.int i5), .val (.int (1 : Int32)), .val (.int (1 : Int32)), .val (.int (3 : Int32)), .val (.int (i1 &&& (65535 : Int32))), .val (.int (i2 &&& (65535 : Int32))), .val (.int (i3 &&& (65535 : Int32))), .val (.ref b53), .val (.ref b61_0), .unset] [])) _
        refine XS.aload X61.here hx rfl (hb hby at_152) rfl rfl ?_
        show Steps p.tables e below (T61.setTop (mkF m 154 #[.val (.int i1), .val (.int i2), .val (.int i3), .val (.int i4), .val (.int i5), .val (.int (1 : Int32)), .val (.int (1 : Int32)), .val (.int (3 : Int32)), .val (.int (i1 &&& (65535 : Int32))), .val (.int (i2 &&& (65535 : Int32))), .val (.int (i3 &&& (65535 : Int32))), .val (.ref b53), .val (.ref b61_0), .unset] [(.ref b61_0)])) _
        refine X61.arraylength hx (by exact Ar63.1) (State.isArrayOf_alike hZ.alike Ar63.2.1) (g := (mkF m 154 #[.val (.int i1), .val (.int i2), .val (.int i3), .val (.int i4), .val (.int i5), .val (.int (1 : Int32)), .val (.int (1 : Int32)), .val (.int (3 : Int32)), .val (.int (i1 &&& (65535 : Int32))), .val (.int (i2 &&& (65535 : Int32))), .val (.int (i3 &&& (65535 : Int32))), .val (.ref b53), .val (.ref b61_0), .unset] [(.ref b61_0)])) rfl rfl (hb hby at_154) _ ?_
        rw [len_of Sz63 Nn63]
        show Steps p.tables e below (T61.setTop (mkF m 155 #[.val (.int i1), .val (.int i2), .val (.int i3), .val (.int i4), .val (.int i5), .val (.int (1 : Int32)), .val (.int (1 : Int32)), .val (.int (3 : Int32)), .val (.int (i1 &&& (65535 : Int32))), .val (.int (i2 &&& (65535 : Int32))), .val (.int (i3 &&& (65535 : Int32))), .val (.ref b53), .val (.ref b61_0), .unset] [(.int (1 : Int32))])) _
        refine XS.iload X61.here hx rfl (hb hby at_155) rfl ?_
        show Steps p.tables e below (T61.setTop (mkF m 157 #[.val (.int i1), .val (.int i2), .val (.int i3), .val (.int i4), .val (.int i5), .val (.int (1 : Int32)), .val (.int (1 : Int32)), .val (.int (3 : Int32)), .val (.int (i1 &&& (65535 : Int32))), .val (.int (i2 &&& (65535 : Int32))), .val (.int (i3 &&& (65535 : Int32))), .val (.ref b53), .val (.ref b61_0), .unset] [(.int (1 : Int32)), (.int (1 : Int32))])) _
        refine XS.icmpYes X61.here hx rfl (pc0 := 157) (pc' := 162) rfl (hb hby at_157) rfl (teq (by decide : (1 : Int32) = (1 : Int32))).1 (by decide) (by decide) ?_
        show Steps p.tables e below (T61.setTop (mkF m 162 #[.val (.int i1), .val (.int i2), .val (.int i3), .val (.int i4), .val (.int i5), .val (.int (1 : Int32)), .val (.int (1 : Int32)), .val (.int (3 : Int32)), .val (.int (i1 &&& (65535 : Int32))), .val (.int (i2 &&& (65535 : Int32))), .val (.int (i3 &&& (65535 : Int32))), .val (.ref b53), .val (.ref b61_0), .unset] [])) _
        refine XS.iconst X61.here hx rfl (hb hby at_162) ?_
        show Steps p.tables e below (T61.setTop (mkF m 163 #[.val (.int i1), .val (.int i2), .val (.int i3), .val (.int i4), .val (.int i5), .val (.int (1 : Int32)), .val (.int (1 : Int32)), .val (.int (3 : Int32)), .val (.int (i1 &&& (65535 : Int32))), .val (.int (i2 &&& (65535 : Int32))), .val (.int (i3 &&& (65535 : Int32))), .val (.ref b53), .val (.ref b61_0), .unset] [(.int (1 : Int32))])) _
        refine XS.istore X61.here hx rfl (hb hby at_163) rfl (l' := #[.val (.int i1), .val (.int i2), .val (.int i3), .val (.int i4), .val (.int i5), .val (.int (1 : Int32)), .val (.int (1 : Int32)), .val (.int (3 : Int32)), .val (.int (i1 &&& (65535 : Int32))), .val (.int (i2 &&& (65535 : Int32))), .val (.int (i3 &&& (65535 : Int32))), .val (.ref b53), .val (.ref b61_0), .val (.int (1 : Int32))]) rfl ?_
        show Steps p.tables e below (T61.setTop (mkF m 165 #[.val (.int i1), .val (.int i2), .val (.int i3), .val (.int i4), .val (.int i5), .val (.int (1 : Int32)), .val (.int (1 : Int32)), .val (.int (3 : Int32)), .val (.int (i1 &&& (65535 : Int32))), .val (.int (i2 &&& (65535 : Int32))), .val (.int (i3 &&& (65535 : Int32))), .val (.ref b53), .val (.ref b61_0), .val (.int (1 : Int32))] [])) _
        refine XS.iload X61.here hx rfl (hb hby at_165) rfl ?_
        show Steps p.tables e below (T61.setTop (mkF m 167 #[.val (.int i1), .val (.int i2), .val (.int i3), .val (.int i4), .val (.int i5), .val (.int (1 : Int32)), .val (.int (1 : Int32)), .val (.int (3 : Int32)), .val (.int (i1 &&& (65535 : Int32))), .val (.int (i2 &&& (65535 : Int32))), .val (.int (i3 &&& (65535 : Int32))), .val (.ref b53), .val (.ref b61_0), .val (.int (1 : Int32))] [(.int (1 : Int32))])) _
        refine XS.ifNo X61.here hx rfl (hb hby at_167) rfl ((if0 _ _).trans (tlt (by decide : (0 : Int32) < (1 : Int32))).2.2.2) ?_
        show Steps p.tables e below (T61.setTop (mkF m 170 #[.val (.int i1), .val (.int i2), .val (.int i3), .val (.int i4), .val (.int i5), .val (.int (1 : Int32)), .val (.int (1 : Int32)), .val (.int (3 : Int32)), .val (.int (i1 &&& (65535 : Int32))), .val (.int (i2 &&& (65535 : Int32))), .val (.int (i3 &&& (65535 : Int32))), .val (.ref b53), .val (.ref b61_0), .val (.int (1 : Int32))] [])) _
        refine XS.iload X61.here hx rfl (hb hby at_170) rfl ?_
        show Steps p.tables e below (T61.setTop (mkF m 172 #[.val (.int i1), .val (.int i2), .val (.int i3), .val (.int i4), .val (.int i5), .val (.int (1 : Int32)), .val (.int (1 : Int32)), .val (.int (3 : Int32)), .val (.int (i1 &&& (65535 : Int32))), .val (.int (i2 &&& (65535 : Int32))), .val (.int (i3 &&& (65535 : Int32))), .val (.ref b53), .val (.ref b61_0), .val (.int (1 : Int32))] [(.int (1 : Int32))])) _
        refine XS.ifNo X61.here hx rfl (hb hby at_172) rfl ((if0 _ _).trans (feq (by decide : ¬ ((1 : Int32) = (0 : Int32)))).1) ?_
        show Steps p.tables e below (T61.setTop (mkF m 175 #[.val (.int i1), .val (.int i2), .val (.int i3), .val (.int i4), .val (.int i5), .val (.int (1 : Int32)), .val (.int (1 : Int32)), .val (.int (3 : Int32)), .val (.int (i1 &&& (65535 : Int32))), .val (.int (i2 &&& (65535 : Int32))), .val (.int (i3 &&& (65535 : Int32))), .val (.ref b53), .val (.ref b61_0), .val (.int (1 : Int32))] [])) _
        refine XS.aload X61.here hx rfl (hb hby at_175) rfl rfl ?_
        show Steps p.tables e below (T61.setTop (mkF m 177 #[.val (.int i1), .val (.int i2), .val (.int i3), .val (.int i4), .val (.int i5), .val (.int (1 : Int32)), .val (.int (1 : Int32)), .val (.int (3 : Int32)), .val (.int (i1 &&& (65535 : Int32))), .val (.int (i2 &&& (65535 : Int32))), .val (.int (i3 &&& (65535 : Int32))), .val (.ref b53), .val (.ref b61_0), .val (.int (1 : Int32))] [(.ref b61_0)])) _
        refine XS.iconst X61.here hx rfl (hb hby at_177) ?_
        show Steps p.tables e below (T61.setTop (mkF m 178 #[.val (.int i1), .val (.int i2), .val (.int i3), .val (.int i4), .val (.int i5), .val (.int (1 : Int32)), .val (.int (1 : Int32)), .val (.int (3 : Int32)), .val (.int (i1 &&& (65535 : Int32))), .val (.int (i2 &&& (65535 : Int32))), .val (.int (i3 &&& (65535 : Int32))), .val (.ref b53), .val (.ref b61_0), .val (.int (1 : Int32))] [(.int (0 : Int32)), (.ref b61_0)])) _
        refine X61.caload hx (j := (0 : Int32)) (v := (.int (nar .char (((((nar .byte ((((i1 &&& (65535 : Int32)).toUInt32 >>> ((8 : Int32) &&& 31).toUInt32).toInt32).toInt8.toInt32)) &&& (255 : Int32)) <<< ((8 : Int32) &&& 31)) ||| ((nar .byte ((i1 &&& (65535 : Int32)).toInt8.toInt32)) &&& (255 : Int32))).toUInt32.toUInt16.toUInt32.toInt32)))) (by exact Ar64.1) (State.isArrayOf_alike hZ.alike Ar64.2.1) Ar64.2.2 hin64 hat64 (g := (mkF m 178 #[.val (.int i1), .val (.int i2), .val (.int i3), .val (.int i4), .val (.int i5), .val (.int (1 : Int32)), .val (.int (1 : Int32)), .val (.int (3 : Int32)), .val (.int (i1 &&& (65535 : Int32))), .val (.int (i2 &&& (65535 : Int32))), .val (.int (i3 &&& (65535 : Int32))), .val (.ref b53), .val (.ref b61_0), .val (.int (1 : Int32))] [(.int (0 : Int32)), (.ref b61_0)])) rfl rfl (hb hby at_178) _ ?_
        show Steps p.tables e below (T61.setTop (mkF m 179 #[.val (.int i1), .val (.int i2), .val (.int i3), .val (.int i4), .val (.int i5), .val (.int (1 : Int32)), .val (.int (1 : Int32)), .val (.int (3 : Int32)), .val (.int (i1 &&& (65535 : Int32))), .val (.int (i2 &&& (65535 : Int32))), .val (.int (i3 &&& (65535 : Int32))), .val (.ref b53), .val (.ref b61_0), .val (.int (1 : Int32))] [(.int (nar .char (((((nar .byte ((((i1 &&& (65535 : Int32)).toUInt32 >>> ((8 : Int32) &&& 31).toUInt32).toInt32).toInt8.toInt32)) &&& (255 : Int32)) <<< ((8 : Int32) &&& 31)) ||| ((nar .byte ((i1 &&& (65535 : Int32)).toInt8.toInt32)) &&& (255 : Int32))).toUInt32.toUInt16.toUInt32.toInt32)))])) _
        refine XS.iload X61.here hx rfl (hb hby at_179) rfl ?_
        exact k
      have pre69 : ∀ t, Steps p.tables e below (T61.setTop (mkF m 189 #[.val (.int i1), .val (.int i2), .val (.int i3), .val (.int i4), .val (.int i5), .val (.int (1 : Int32)), .val (.int (1 : Int32)), .val (.int (3 : Int32)), .val (.int (i1 &&& (65535 : Int32))), .val (.int (i2 &&& (65535 : Int32))), .val (.int (i3 &&& (65535 : Int32))), .val (.ref b53), .val (.ref b61_0), .val (.int (1 : Int32))] [(.int (own_j0_181_0 i1))])) t → Steps p.tables e below (s₁.setTop (entryFrame m #[(.int i1), (.int i2), (.int i3), (.int i4), (.int i5)] maxLocals)) t := by
        by_cases hc181_66 : (nar .char (((((nar .byte ((((i1 &&& (65535 : Int32)).toUInt32 >>> ((8 : Int32) &&& 31).toUInt32).toInt32).toInt8.toInt32)) &&& (255 : Int32)) <<< ((8 : Int32) &&& 31)) ||| ((nar .byte ((i1 &&& (65535 : Int32)).toInt8.toInt32)) &&& (255 : Int32))).toUInt32.toUInt16.toUInt32.toInt32)) = (i1 &&& (65535 : Int32))
        · have pre67 : ∀ t, Steps p.tables e below (T61.setTop (mkF m 189 #[.val (.int i1), .val (.int i2), .val (.int i3), .val (.int i4), .val (.int i5), .val (.int (1 : Int32)), .val (.int (1 : Int32)), .val (.int (3 : Int32)), .val (.int (i1 &&& (65535 : Int32))), .val (.int (i2 &&& (65535 : Int32))), .val (.int (i3 &&& (65535 : Int32))), .val (.ref b53), .val (.ref b61_0), .val (.int (1 : Int32))] [(.int (1 : Int32))])) t → Steps p.tables e below (s₁.setTop (entryFrame m #[(.int i1), (.int i2), (.int i3), (.int i4), (.int i5)] maxLocals)) t := by
            intro t k
            refine pre65 _ ?_
            show Steps p.tables e below (T61.setTop (mkF m 181 #[.val (.int i1), .val (.int i2), .val (.int i3), .val (.int i4), .val (.int i5), .val (.int (1 : Int32)), .val (.int (1 : Int32)), .val (.int (3 : Int32)), .val (.int (i1 &&& (65535 : Int32))), .val (.int (i2 &&& (65535 : Int32))), .val (.int (i3 &&& (65535 : Int32))), .val (.ref b53), .val (.ref b61_0), .val (.int (1 : Int32))] [(.int (i1 &&& (65535 : Int32))), (.int (nar .char (((((nar .byte ((((i1 &&& (65535 : Int32)).toUInt32 >>> ((8 : Int32) &&& 31).toUInt32).toInt32).toInt8.toInt32)) &&& (255 : Int32)) <<< ((8 : Int32) &&& 31)) ||| ((nar .byte ((i1 &&& (65535 : Int32)).toInt8.toInt32)) &&& (255 : Int32))).toUInt32.toUInt16.toUInt32.toInt32)))])) _
            refine XS.icmpNo X61.here hx rfl (hb hby at_181) rfl (teq hc181_66).2 ?_
            show Steps p.tables e below (T61.setTop (mkF m 184 #[.val (.int i1), .val (.int i2), .val (.int i3), .val (.int i4), .val (.int i5), .val (.int (1 : Int32)), .val (.int (1 : Int32)), .val (.int (3 : Int32)), .val (.int (i1 &&& (65535 : Int32))), .val (.int (i2 &&& (65535 : Int32))), .val (.int (i3 &&& (65535 : Int32))), .val (.ref b53), .val (.ref b61_0), .val (.int (1 : Int32))] [])) _
            refine XS.iconst X61.here hx rfl (hb hby at_184) ?_
            show Steps p.tables e below (T61.setTop (mkF m 185 #[.val (.int i1), .val (.int i2), .val (.int i3), .val (.int i4), .val (.int i5), .val (.int (1 : Int32)), .val (.int (1 : Int32)), .val (.int (3 : Int32)), .val (.int (i1 &&& (65535 : Int32))), .val (.int (i2 &&& (65535 : Int32))), .val (.int (i3 &&& (65535 : Int32))), .val (.ref b53), .val (.ref b61_0), .val (.int (1 : Int32))] [(.int (1 : Int32))])) _
            refine XS.goto X61.here hx rfl (pc0 := 185) (pc' := 189) rfl (hb hby at_185) (by decide) (by decide) ?_
            exact k
          exact fun t k => pre67 t (by rw [show (own_j0_181_0 i1) = (1 : Int32) from (if_pos hc181_66)] at k; exact k)
        · have pre68 : ∀ t, Steps p.tables e below (T61.setTop (mkF m 189 #[.val (.int i1), .val (.int i2), .val (.int i3), .val (.int i4), .val (.int i5), .val (.int (1 : Int32)), .val (.int (1 : Int32)), .val (.int (3 : Int32)), .val (.int (i1 &&& (65535 : Int32))), .val (.int (i2 &&& (65535 : Int32))), .val (.int (i3 &&& (65535 : Int32))), .val (.ref b53), .val (.ref b61_0), .val (.int (1 : Int32))] [(.int (0 : Int32))])) t → Steps p.tables e below (s₁.setTop (entryFrame m #[(.int i1), (.int i2), (.int i3), (.int i4), (.int i5)] maxLocals)) t := by
            intro t k
            refine pre65 _ ?_
            show Steps p.tables e below (T61.setTop (mkF m 181 #[.val (.int i1), .val (.int i2), .val (.int i3), .val (.int i4), .val (.int i5), .val (.int (1 : Int32)), .val (.int (1 : Int32)), .val (.int (3 : Int32)), .val (.int (i1 &&& (65535 : Int32))), .val (.int (i2 &&& (65535 : Int32))), .val (.int (i3 &&& (65535 : Int32))), .val (.ref b53), .val (.ref b61_0), .val (.int (1 : Int32))] [(.int (i1 &&& (65535 : Int32))), (.int (nar .char (((((nar .byte ((((i1 &&& (65535 : Int32)).toUInt32 >>> ((8 : Int32) &&& 31).toUInt32).toInt32).toInt8.toInt32)) &&& (255 : Int32)) <<< ((8 : Int32) &&& 31)) ||| ((nar .byte ((i1 &&& (65535 : Int32)).toInt8.toInt32)) &&& (255 : Int32))).toUInt32.toUInt16.toUInt32.toInt32)))])) _
            refine XS.icmpYes X61.here hx rfl (pc0 := 181) (pc' := 188) rfl (hb hby at_181) rfl (feq hc181_66).2 (by decide) (by decide) ?_
            show Steps p.tables e below (T61.setTop (mkF m 188 #[.val (.int i1), .val (.int i2), .val (.int i3), .val (.int i4), .val (.int i5), .val (.int (1 : Int32)), .val (.int (1 : Int32)), .val (.int (3 : Int32)), .val (.int (i1 &&& (65535 : Int32))), .val (.int (i2 &&& (65535 : Int32))), .val (.int (i3 &&& (65535 : Int32))), .val (.ref b53), .val (.ref b61_0), .val (.int (1 : Int32))] [])) _
            refine XS.iconst X61.here hx rfl (hb hby at_188) ?_
            exact k
          exact fun t k => pre68 t (by rw [show (own_j0_181_0 i1) = (0 : Int32) from (if_neg hc181_66)] at k; exact k)
      have pre70 : ∀ t, Steps p.tables e below (T61.setTop (mkF m 247 #[.val (.int i1), .val (.int i2), .val (.int i3), .val (.int i4), .val (.int i5), .val (.int (1 : Int32)), .val (.int (1 : Int32)), .val (.int (3 : Int32)), .val (.int (i1 &&& (65535 : Int32))), .val (.int (i2 &&& (65535 : Int32))), .val (.int (i3 &&& (65535 : Int32))), .val (.ref b53), .val (.ref b61_0), .val (.int (own_j0_181_0 i1))] [(.int (own_j0_181_0 i1))])) t → Steps p.tables e below (s₁.setTop (entryFrame m #[(.int i1), (.int i2), (.int i3), (.int i4), (.int i5)] maxLocals)) t := by
        intro t k
        refine pre69 _ ?_
        show Steps p.tables e below (T61.setTop (mkF m 189 #[.val (.int i1), .val (.int i2), .val (.int i3), .val (.int i4), .val (.int i5), .val (.int (1 : Int32)), .val (.int (1 : Int32)), .val (.int (3 : Int32)), .val (.int (i1 &&& (65535 : Int32))), .val (.int (i2 &&& (65535 : Int32))), .val (.int (i3 &&& (65535 : Int32))), .val (.ref b53), .val (.ref b61_0), .val (.int (1 : Int32))] [(.int (own_j0_181_0 i1))])) _
        refine XS.istore X61.here hx rfl (hb hby at_189) rfl (l' := #[.val (.int i1), .val (.int i2), .val (.int i3), .val (.int i4), .val (.int i5), .val (.int (1 : Int32)), .val (.int (1 : Int32)), .val (.int (3 : Int32)), .val (.int (i1 &&& (65535 : Int32))), .val (.int (i2 &&& (65535 : Int32))), .val (.int (i3 &&& (65535 : Int32))), .val (.ref b53), .val (.ref b61_0), .val (.int (own_j0_181_0 i1))]) rfl ?_
        show Steps p.tables e below (T61.setTop (mkF m 191 #[.val (.int i1), .val (.int i2), .val (.int i3), .val (.int i4), .val (.int i5), .val (.int (1 : Int32)), .val (.int (1 : Int32)), .val (.int (3 : Int32)), .val (.int (i1 &&& (65535 : Int32))), .val (.int (i2 &&& (65535 : Int32))), .val (.int (i3 &&& (65535 : Int32))), .val (.ref b53), .val (.ref b61_0), .val (.int (own_j0_181_0 i1))] [])) _
        refine XS.iload X61.here hx rfl (hb hby at_191) rfl ?_
        show Steps p.tables e below (T61.setTop (mkF m 193 #[.val (.int i1), .val (.int i2), .val (.int i3), .val (.int i4), .val (.int i5), .val (.int (1 : Int32)), .val (.int (1 : Int32)), .val (.int (3 : Int32)), .val (.int (i1 &&& (65535 : Int32))), .val (.int (i2 &&& (65535 : Int32))), .val (.int (i3 &&& (65535 : Int32))), .val (.ref b53), .val (.ref b61_0), .val (.int (own_j0_181_0 i1))] [(.int (1 : Int32))])) _
        refine XS.iconst X61.here hx rfl (hb hby at_193) ?_
        show Steps p.tables e below (T61.setTop (mkF m 194 #[.val (.int i1), .val (.int i2), .val (.int i3), .val (.int i4), .val (.int i5), .val (.int (1 : Int32)), .val (.int (1 : Int32)), .val (.int (3 : Int32)), .val (.int (i1 &&& (65535 : Int32))), .val (.int (i2 &&& (65535 : Int32))), .val (.int (i3 &&& (65535 : Int32))), .val (.ref b53), .val (.ref b61_0), .val (.int (own_j0_181_0 i1))] [(.int (1 : Int32)), (.int (1 : Int32))])) _
        refine XS.icmpYes X61.here hx rfl (pc0 := 194) (pc' := 218) rfl (hb hby at_194) rfl (flt (by decide : ¬ ((1 : Int32) < (1 : Int32)))).2.2.2 (by decide) (by decide) ?_
        show Steps p.tables e below (T61.setTop (mkF m 218 #[.val (.int i1), .val (.int i2), .val (.int i3), .val (.int i4), .val (.int i5), .val (.int (1 : Int32)), .val (.int (1 : Int32)), .val (.int (3 : Int32)), .val (.int (i1 &&& (65535 : Int32))), .val (.int (i2 &&& (65535 : Int32))), .val (.int (i3 &&& (65535 : Int32))), .val (.ref b53), .val (.ref b61_0), .val (.int (own_j0_181_0 i1))] [])) _
        refine XS.iload X61.here hx rfl (hb hby at_218) rfl ?_
        show Steps p.tables e below (T61.setTop (mkF m 220 #[.val (.int i1), .val (.int i2), .val (.int i3), .val (.int i4), .val (.int i5), .val (.int (1 : Int32)), .val (.int (1 : Int32)), .val (.int (3 : Int32)), .val (.int (i1 &&& (65535 : Int32))), .val (.int (i2 &&& (65535 : Int32))), .val (.int (i3 &&& (65535 : Int32))), .val (.ref b53), .val (.ref b61_0), .val (.int (own_j0_181_0 i1))] [(.int (1 : Int32))])) _
        refine XS.iconst X61.here hx rfl (hb hby at_220) ?_
        show Steps p.tables e below (T61.setTop (mkF m 221 #[.val (.int i1), .val (.int i2), .val (.int i3), .val (.int i4), .val (.int i5), .val (.int (1 : Int32)), .val (.int (1 : Int32)), .val (.int (3 : Int32)), .val (.int (i1 &&& (65535 : Int32))), .val (.int (i2 &&& (65535 : Int32))), .val (.int (i3 &&& (65535 : Int32))), .val (.ref b53), .val (.ref b61_0), .val (.int (own_j0_181_0 i1))] [(.int (2 : Int32)), (.int (1 : Int32))])) _
        refine XS.icmpYes X61.here hx rfl (pc0 := 221) (pc' := 245) rfl (hb hby at_221) rfl (flt (by decide : ¬ ((2 : Int32) < (1 : Int32)))).2.2.2 (by decide) (by decide) ?_
        show Steps p.tables e below (T61.setTop (mkF m 245 #[.val (.int i1), .val (.int i2), .val (.int i3), .val (.int i4), .val (.int i5), .val (.int (1 : Int32)), .val (.int (1 : Int32)), .val (.int (3 : Int32)), .val (.int (i1 &&& (65535 : Int32))), .val (.int (i2 &&& (65535 : Int32))), .val (.int (i3 &&& (65535 : Int32))), .val (.ref b53), .val (.ref b61_0), .val (.int (own_j0_181_0 i1))] [])) _
        refine XS.iload X61.here hx rfl (hb hby at_245) rfl ?_
        exact k
      obtain ⟨fs, hr, hrun, hended, hW, hsame⟩ := X61.leave (v := some (.int (nar .boolean (own_j0_181_0 i1)))) (fun h => by rw [Bd.returns] at h; cases h)
      refine ⟨_, _, pre70 _ ?_, hrun, hended, _, _, rfl, ?_, ⟨_, rfl⟩, hW, hsame.mono (by decide) (by decide)⟩
      · show Steps p.tables e below (T61.setTop (mkF m 247 #[.val (.int i1), .val (.int i2), .val (.int i3), .val (.int i4), .val (.int i5), .val (.int (1 : Int32)), .val (.int (1 : Int32)), .val (.int (3 : Int32)), .val (.int (i1 &&& (65535 : Int32))), .val (.int (i2 &&& (65535 : Int32))), .val (.int (i3 &&& (65535 : Int32))), .val (.ref b53), .val (.ref b61_0), .val (.int (own_j0_181_0 i1))] [(.int (own_j0_181_0 i1))])) _
        exact retN X61 hx (t := .boolean) Bd.returns (by simp) (hb hby at_247) hr
      · show Q0 Z i1 i2 i3 i4 i5 h0 n0 _ T61.heap _
        exact ⟨congrArg (fun z => some (Value.int z)) (show (own_r0 i1 i2 i3 i5) = (nar .boolean (own_j0_181_0 i1)) from ((if_neg (by rw [hk2]; decide)).trans ((if_pos hk2).trans (if_neg (by rw [hk34]; decide))))).symm, N61⟩
  · have pre71 : ∀ t, Steps p.tables e below (s₁.setTop (mkF m 6 #[.val (.int i1), .val (.int i2), .val (.int i3), .val (.int i4), .val (.int i5), .val (.int (2 : Int32)), .unset, .unset, .unset, .unset, .unset, .unset, .unset, .unset] [])) t → Steps p.tables e below (s₁.setTop (entryFrame m #[(.int i1), (.int i2), (.int i3), (.int i4), (.int i5)] maxLocals)) t := fun t k => pre1 t (by rw [hk2]; exact k)
    have pre72 : ∀ t, Steps p.tables e below (s₁.setTop (mkF m 12 #[.val (.int i1), .val (.int i2), .val (.int i3), .val (.int i4), .val (.int i5), .val (.int (2 : Int32)), .unset, .unset, .unset, .unset, .unset, .unset, .unset, .unset] [(.int (((i5.toUInt32 >>> ((2 : Int32) &&& 31).toUInt32).toInt32) &&& (1 : Int32)))])) t → Steps p.tables e below (s₁.setTop (entryFrame m #[(.int i1), (.int i2), (.int i3), (.int i4), (.int i5)] maxLocals)) t := by
      intro t k
      refine pre71 _ ?_
      show Steps p.tables e below (s₁.setTop (mkF m 6 #[.val (.int i1), .val (.int i2), .val (.int i3), .val (.int i4), .val (.int i5), .val (.int (2 : Int32)), .unset, .unset, .unset, .unset, .unset, .unset, .unset, .unset] [])) _
      refine XS.iload X0.here hx rfl (hb hby at_6) rfl ?_
      show Steps p.tables e below (s₁.setTop (mkF m 8 #[.val (.int i1), .val (.int i2), .val (.int i3), .val (.int i4), .val (.int i5), .val (.int (2 : Int32)), .unset, .unset, .unset, .unset, .unset, .unset, .unset, .unset] [(.int i5)])) _
      refine XS.iconst X0.here hx rfl (hb hby at_8) ?_
      show Steps p.tables e below (s₁.setTop (mkF m 9 #[.val (.int i1), .val (.int i2), .val (.int i3), .val (.int i4), .val (.int i5), .val (.int (2 : Int32)), .unset, .unset, .unset, .unset, .unset, .unset, .unset, .unset] [(.int (2 : Int32)), (.int i5)])) _
      refine XS.iushr X0.here hx rfl (hb hby at_9) rfl ?_
      show Steps p.tables e below (s₁.setTop (mkF m 10 #[.val (.int i1), .val (.int i2), .val (.int i3), .val (.int i4), .val (.int i5), .val (.int (2 : Int32)), .unset, .unset, .unset, .unset, .unset, .unset, .unset, .unset] [(.int ((i5.toUInt32 >>> ((2 : Int32) &&& 31).toUInt32).toInt32))])) _
      refine XS.iconst X0.here hx rfl (hb hby at_10) ?_
      show Steps p.tables e below (s₁.setTop (mkF m 11 #[.val (.int i1), .val (.int i2), .val (.int i3), .val (.int i4), .val (.int i5), .val (.int (2 : Int32)), .unset, .unset, .unset, .unset, .unset, .unset, .unset, .unset] [(.int (1 : Int32)), (.int ((i5.toUInt32 >>> ((2 : Int32) &&& 31).toUInt32).toInt32))])) _
      refine XS.iand X0.here hx rfl (hb hby at_11) rfl ?_
      exact k
    have pre76 : ∀ t, Steps p.tables e below (s₁.setTop (mkF m 20 #[.val (.int i1), .val (.int i2), .val (.int i3), .val (.int i4), .val (.int i5), .val (.int (2 : Int32)), .unset, .unset, .unset, .unset, .unset, .unset, .unset, .unset] [(.int (own_j0_12_0 i5))])) t → Steps p.tables e below (s₁.setTop (entryFrame m #[(.int i1), (.int i2), (.int i3), (.int i4), (.int i5)] maxLocals)) t := by
      by_cases hc12_73 : (((i5.toUInt32 >>> ((2 : Int32) &&& 31).toUInt32).toInt32) &&& (1 : Int32)) = (0 : Int32)
      · have pre74 : ∀ t, Steps p.tables e below (s₁.setTop (mkF m 20 #[.val (.int i1), .val (.int i2), .val (.int i3), .val (.int i4), .val (.int i5), .val (.int (2 : Int32)), .unset, .unset, .unset, .unset, .unset, .unset, .unset, .unset] [(.int (0 : Int32))])) t → Steps p.tables e below (s₁.setTop (entryFrame m #[(.int i1), (.int i2), (.int i3), (.int i4), (.int i5)] maxLocals)) t := by
          intro t k
          refine pre72 _ ?_
          show Steps p.tables e below (s₁.setTop (mkF m 12 #[.val (.int i1), .val (.int i2), .val (.int i3), .val (.int i4), .val (.int i5), .val (.int (2 : Int32)), .unset, .unset, .unset, .unset, .unset, .unset, .unset, .unset] [(.int (((i5.toUInt32 >>> ((2 : Int32) &&& 31).toUInt32).toInt32) &&& (1 : Int32)))])) _
          refine XS.ifYes X0.here hx rfl (pc0 := 12) (pc' := 19) rfl (hb hby at_12) rfl ((if0 _ _).trans (teq hc12_73).1) (by decide) (by decide) ?_
          show Steps p.tables e below (s₁.setTop (mkF m 19 #[.val (.int i1), .val (.int i2), .val (.int i3), .val (.int i4), .val (.int i5), .val (.int (2 : Int32)), .unset, .unset, .unset, .unset, .unset, .unset, .unset, .unset] [])) _
          refine XS.iconst X0.here hx rfl (hb hby at_19) ?_
          exact k
        exact fun t k => pre74 t (by rw [show (own_j0_12_0 i5) = (0 : Int32) from (if_pos hc12_73)] at k; exact k)
      · have pre75 : ∀ t, Steps p.tables e below (s₁.setTop (mkF m 20 #[.val (.int i1), .val (.int i2), .val (.int i3), .val (.int i4), .val (.int i5), .val (.int (2 : Int32)), .unset, .unset, .unset, .unset, .unset, .unset, .unset, .unset] [(.int (1 : Int32))])) t → Steps p.tables e below (s₁.setTop (entryFrame m #[(.int i1), (.int i2), (.int i3), (.int i4), (.int i5)] maxLocals)) t := by
          intro t k
          refine pre72 _ ?_
          show Steps p.tables e below (s₁.setTop (mkF m 12 #[.val (.int i1), .val (.int i2), .val (.int i3), .val (.int i4), .val (.int i5), .val (.int (2 : Int32)), .unset, .unset, .unset, .unset, .unset, .unset, .unset, .unset] [(.int (((i5.toUInt32 >>> ((2 : Int32) &&& 31).toUInt32).toInt32) &&& (1 : Int32)))])) _
          refine XS.ifNo X0.here hx rfl (hb hby at_12) rfl ((if0 _ _).trans (feq hc12_73).1) ?_
          show Steps p.tables e below (s₁.setTop (mkF m 15 #[.val (.int i1), .val (.int i2), .val (.int i3), .val (.int i4), .val (.int i5), .val (.int (2 : Int32)), .unset, .unset, .unset, .unset, .unset, .unset, .unset, .unset] [])) _
          refine XS.iconst X0.here hx rfl (hb hby at_15) ?_
          show Steps p.tables e below (s₁.setTop (mkF m 16 #[.val (.int i1), .val (.int i2), .val (.int i3), .val (.int i4), .val (.int i5), .val (.int (2 : Int32)), .unset, .unset, .unset, .unset, .unset, .unset, .unset, .unset] [(.int (1 : Int32))])) _
          refine XS.goto X0.here hx rfl (pc0 := 16) (pc' := 20) rfl (hb hby at_16) (by decide) (by decide) ?_
          exact k
        exact fun t k => pre75 t (by rw [show (own_j0_12_0 i5) = (1 : Int32) from (if_neg hc12_73)] at k; exact k)
    have pre77 : ∀ t, Steps p.tables e below (s₁.setTop (mkF m 22 #[.val (.int i1), .val (.int i2), .val (.int i3), .val (.int i4), .val (.int i5), .val (.int (2 : Int32)), .val (.int (own_j0_12_0 i5)), .unset, .unset, .unset, .unset, .unset, .unset, .unset] [])) t → Steps p.tables e below (s₁.setTop (entryFrame m #[(.int i1), (.int i2), (.int i3), (.int i4), (.int i5)] maxLocals)) t := by
      intro t k
      refine pre76 _ ?_
      show Steps p.tables e below (s₁.setTop (mkF m 20 #[.val (.int i1), .val (.int i2), .val (.int i3), .val (.int i4), .val (.int i5), .val (.int (2 : Int32)), .unset, .unset, .unset, .unset, .unset, .unset, .unset, .unset] [(.int (own_j0_12_0 i5))])) _
      refine XS.istore X0.here hx rfl (hb hby at_20) rfl (l' := #[.val (.int i1), .val (.int i2), .val (.int i3), .val (.int i4), .val (.int i5), .val (.int (2 : Int32)), .val (.int (own_j0_12_0 i5)), .unset, .unset, .unset, .unset, .unset, .unset, .unset]) rfl ?_
      exact k
    rcases ((own_ob0_odd i5) : (own_j0_12_0 i5) = (0 : Int32) ∨ (own_j0_12_0 i5) = (1 : Int32)) with hk78 | hk78
    · have pre79 : ∀ t, Steps p.tables e below (s₁.setTop (mkF m 22 #[.val (.int i1), .val (.int i2), .val (.int i3), .val (.int i4), .val (.int i5), .val (.int (2 : Int32)), .val (.int (0 : Int32)), .unset, .unset, .unset, .unset, .unset, .unset, .unset] [])) t → Steps p.tables e below (s₁.setTop (entryFrame m #[(.int i1), (.int i2), (.int i3), (.int i4), (.int i5)] maxLocals)) t := fun t k => pre77 t (by rw [hk78]; exact k)
      obtain ⟨T80, h80, k80, X80, e80, E80, A80, st80⟩ := newP X0 hx hZ (hw _ (List.mem_of_getElem? (i := 1) rfl)) e0 (g := (mkF m 59 #[.val (.int i1), .val (.int i2), .val (.int i3), .val (.int i4), .val (.int i5), .val (.int (2 : Int32)), .val (.int (0 : Int32)), .val (.int (4 : Int32)), .val (.int (i1 &&& (65535 : Int32))), .val (.int (i2 &&& (65535 : Int32))), .val (.int (i3 &&& (65535 : Int32))), .unset, .unset, .unset] [(.int (4 : Int32))])) rfl (hb hby at_59) rfl (by decide) (cap := 4) (by decide) (by decide) (by decide) (by decide)
      obtain ⟨b80, g80⟩ : ∃ z, z = h0.size := ⟨_, rfl⟩
      rw [← g80] at A80 st80
      have sz_b80 : h0.size ≤ b80 := Nat.le_trans (Keep.refl h0 []).1 (Nat.le_of_eq g80.symm)
      have K81 : Keep h0 h80 [] := (Keep.refl h0 []).ext E80
      have V80 : Arv Z h80 b80 k80 .byte (4 : Int32) [(.int (0 : Int32)), (.int (0 : Int32)), (.int (0 : Int32)), (.int (0 : Int32))] (.int (0 : Int32)) := (Arv.new A80 (by decide)).pad (pad_rep [] (.int (0 : Int32)) 4)
      obtain ⟨cl82, Ar82, Cq82, Sz82, Nn82, Hh82, Gg82⟩ := id V80
      have hin82 : ¬ ((0 : Int32) < 0 ∨ cl82.slots.size ≤ ((0 : Int32)).toNatClampNeg) := inb_of Sz82 ⟨by decide, by decide⟩
      obtain ⟨T82, h82, X82, e82, W82, st82⟩ := stB X80 hx hZ e80 Ar82 (j := (0 : Int32)) hin82 (g := (mkF m 77 #[.val (.int i1), .val (.int i2), .val (.int i3), .val (.int i4), .val (.int i5), .val (.int (2 : Int32)), .val (.int (0 : Int32)), .val (.int (4 : Int32)), .val (.int (i1 &&& (65535 : Int32))), .val (.int (i2 &&& (65535 : Int32))), .val (.int (i3 &&& (65535 : Int32))), .val (.ref b80), .unset, .unset] [(.int ((((i1 &&& (65535 : Int32)).toUInt32 >>> ((8 : Int32) &&& 31).toUInt32).toInt32).toInt8.toInt32)), (.int (0 : Int32)), (.ref b80)])) rfl rfl (hb hby at_77)
      have V82 : Arv Z h82 b80 k80 .byte (4 : Int32) [(.int (nar .byte ((((i1 &&& (65535 : Int32)).toUInt32 >>> ((8 : Int32) &&& 31).toUInt32).toInt32).toInt8.toInt32))), (.int (0 : Int32)), (.int (0 : Int32)), (.int (0 : Int32))] (.int (0 : Int32)) := Arv.set Ar82 Cq82 Sz82 Nn82 Hh82 Gg82 (fits_nar_byte _) W82 0 rfl (Nat.le_of_ble_eq_true rfl)
      have N82 := Fr.snoc X82 N0 (Nat.le_trans Z0 sz_b80)
      have K83 : Keep h0 h82 [] := K81.wr W82 (Or.inr sz_b80)
      obtain ⟨cl84, Ar84, Cq84, Sz84, Nn84, Hh84, Gg84⟩ := id V82
      have hin84 : ¬ ((1 : Int32) < 0 ∨ cl84.slots.size ≤ ((1 : Int32)).toNatClampNeg) := inb_of Sz84 ⟨by decide, by decide⟩
      obtain ⟨T84, h84, X84, e84, W84, st84⟩ := stB X82 hx hZ e82 Ar84 (j := (1 : Int32)) hin84 (g := (mkF m 84 #[.val (.int i1), .val (.int i2), .val (.int i3), .val (.int i4), .val (.int i5), .val (.int (2 : Int32)), .val (.int (0 : Int32)), .val (.int (4 : Int32)), .val (.int (i1 &&& (65535 : Int32))), .val (.int (i2 &&& (65535 : Int32))), .val (.int (i3 &&& (65535 : Int32))), .val (.ref b80), .unset, .unset] [(.int ((i1 &&& (65535 : Int32)).toInt8.toInt32)), (.int (1 : Int32)), (.ref b80)])) rfl rfl (hb hby at_84)
      have V84 : Arv Z h84 b80 k80 .byte (4 : Int32) [(.int (nar .byte ((((i1 &&& (65535 : Int32)).toUInt32 >>> ((8 : Int32) &&& 31).toUInt32).toInt32).toInt8.toInt32))), (.int (nar .byte ((i1 &&& (65535 : Int32)).toInt8.toInt32))), (.int (0 : Int32)), (.int (0 : Int32))] (.int (0 : Int32)) := Arv.set Ar84 Cq84 Sz84 Nn84 Hh84 Gg84 (fits_nar_byte _) W84 1 rfl (Nat.le_of_ble_eq_true rfl)
      have N84 := Fr.snoc X84 N82 (Nat.le_trans Z0 sz_b80)
      have K85 : Keep h0 h84 [] := K83.wr W84 (Or.inr sz_b80)
      obtain ⟨cl86, Ar86, Cq86, Sz86, Nn86, Hh86, Gg86⟩ := id V84
      have hin86 : ¬ ((2 : Int32) < 0 ∨ cl86.slots.size ≤ ((2 : Int32)).toNatClampNeg) := inb_of Sz86 ⟨by decide, by decide⟩
      obtain ⟨T86, h86, X86, e86, W86, st86⟩ := stB X84 hx hZ e84 Ar86 (j := (2 : Int32)) hin86 (g := (mkF m 100 #[.val (.int i1), .val (.int i2), .val (.int i3), .val (.int i4), .val (.int i5), .val (.int (2 : Int32)), .val (.int (0 : Int32)), .val (.int (4 : Int32)), .val (.int (i1 &&& (65535 : Int32))), .val (.int (i2 &&& (65535 : Int32))), .val (.int (i3 &&& (65535 : Int32))), .val (.ref b80), .unset, .unset] [(.int ((((i2 &&& (65535 : Int32)).toUInt32 >>> ((8 : Int32) &&& 31).toUInt32).toInt32).toInt8.toInt32)), (.int (2 : Int32)), (.ref b80)])) rfl rfl (hb hby at_100)
      have V86 : Arv Z h86 b80 k80 .byte (4 : Int32) [(.int (nar .byte ((((i1 &&& (65535 : Int32)).toUInt32 >>> ((8 : Int32) &&& 31).toUInt32).toInt32).toInt8.toInt32))), (.int (nar .byte ((i1 &&& (65535 : Int32)).toInt8.toInt32))), (.int (nar .byte ((((i2 &&& (65535 : Int32)).toUInt32 >>> ((8 : Int32) &&& 31).toUInt32).toInt32).toInt8.toInt32))), (.int (0 : Int32))] (.int (0 : Int32)) := Arv.set Ar86 Cq86 Sz86 Nn86 Hh86 Gg86 (fits_nar_byte _) W86 2 rfl (Nat.le_of_ble_eq_true rfl)
      have N86 := Fr.snoc X86 N84 (Nat.le_trans Z0 sz_b80)
      have K87 : Keep h0 h86 [] := K85.wr W86 (Or.inr sz_b80)
      obtain ⟨cl88, Ar88, Cq88, Sz88, Nn88, Hh88, Gg88⟩ := id V86
      have hin88 : ¬ ((3 : Int32) < 0 ∨ cl88.slots.size ≤ ((3 : Int32)).toNatClampNeg) := inb_of Sz88 ⟨by decide, by decide⟩
      obtain ⟨T88, h88, X88, e88, W88, st88⟩ := stB X86 hx hZ e86 Ar88 (j := (3 : Int32)) hin88 (g := (mkF m 107 #[.val (.int i1), .val (.int i2), .val (.int i3), .val (.int i4), .val (.int i5), .val (.int (2 : Int32)), .val (.int (0 : Int32)), .val (.int (4 : Int32)), .val (.int (i1 &&& (65535 : Int32))), .val (.int (i2 &&& (65535 : Int32))), .val (.int (i3 &&& (65535 : Int32))), .val (.ref b80), .unset, .unset] [(.int ((i2 &&& (65535 : Int32)).toInt8.toInt32)), (.int (3 : Int32)), (.ref b80)])) rfl rfl (hb hby at_107)
      have V88 : Arv Z h88 b80 k80 .byte (4 : Int32) [(.int (nar .byte ((((i1 &&& (65535 : Int32)).toUInt32 >>> ((8 : Int32) &&& 31).toUInt32).toInt32).toInt8.toInt32))), (.int (nar .byte ((i1 &&& (65535 : Int32)).toInt8.toInt32))), (.int (nar .byte ((((i2 &&& (65535 : Int32)).toUInt32 >>> ((8 : Int32) &&& 31).toUInt32).toInt32).toInt8.toInt32))), (.int (nar .byte ((i2 &&& (65535 : Int32)).toInt8.toInt32)))] (.int (0 : Int32)) := Arv.set Ar88 Cq88 Sz88 Nn88 Hh88 Gg88 (fits_nar_byte _) W88 3 rfl (Nat.le_of_ble_eq_true rfl)
      have N88 := Fr.snoc X88 N86 (Nat.le_trans Z0 sz_b80)
      have K89 : Keep h0 h88 [] := K87.wr W88 (Or.inr sz_b80)
      obtain ⟨_, _, ⟨T90, L90, k90, n90⟩, -, X90, ⟨Lc90, hQ90, l90, y90, z90⟩, st90⟩ := Jvm.LawKit.callS X88 hx (y := (⟨"com/example/aschenputtel/aschenputtel/values/UcaWeights", "keyCharacters", "([B)[C"⟩ : MethodName)) hown (mvT hZ (hw _ (List.mem_of_getElem? (i := 2) rfl))) (mvT hZ (hw _ (List.mem_of_getElem? (i := 3) rfl))) (mvT hZ (hw _ (List.mem_of_getElem? (i := 4) rfl))) (mvT hZ (hw _ (List.mem_of_getElem? (i := 5) rfl))) (by decide) (backOf (W := 0) (rm1d l Z a0 hw [] b80 (nar .byte ((((i1 &&& (65535 : Int32)).toUInt32 >>> ((8 : Int32) &&& 31).toUInt32).toInt32).toInt8.toInt32)) (nar .byte ((i1 &&& (65535 : Int32)).toInt8.toInt32)) (nar .byte ((((i2 &&& (65535 : Int32)).toUInt32 >>> ((8 : Int32) &&& 31).toUInt32).toInt32).toInt8.toInt32)) (nar .byte ((i2 &&& (65535 : Int32)).toInt8.toInt32)) k80 h88 n0 (Nat.le_trans Z0 K89.1) V88) hZ (hw _ (List.mem_of_getElem? (i := 5) rfl)) (hw _ (List.mem_of_getElem? (i := 4) rfl)) (by decide) (by decide)) (g := (mkF m 147 #[.val (.int i1), .val (.int i2), .val (.int i3), .val (.int i4), .val (.int i5), .val (.int (2 : Int32)), .val (.int (0 : Int32)), .val (.int (4 : Int32)), .val (.int (i1 &&& (65535 : Int32))), .val (.int (i2 &&& (65535 : Int32))), .val (.int (i3 &&& (65535 : Int32))), .val (.ref b80), .unset, .unset] [(.ref b80)])) rfl (by rw [hml]; rfl) (argsL := [(.ref b80)]) (rest := []) (lenOf pd_0 rfl) rfl (by show 2 * 0 + _ ≤ _; exact Nat.le_of_eq rfl) (hb hby at_147) (fun _ _ => ⟨rfl, e88, (by decide : 1 + 1 ≤ _), (by decide : 4 + 2 ≤ _)⟩)
      dsimp only [Pt.U, Pt.locs, Pt.cells, Pt.slots] at X90 l90 y90 z90 st90 hQ90
      subst l90 y90 z90
      obtain ⟨b90_0, k90_1, rfl, Nq90, Kq90, sq90_0, f90_0⟩ := hQ90
      have sz_b90_0 : h0.size ≤ b90_0 := Nat.le_trans K89.1 sq90_0
      have K91 : Keep h0 T90.heap [] := K89.trans Kq90 all0
      have N90 := Fr.app N88 Nq90
      obtain ⟨cl92, Ar92, -, Sz92, Nn92, -, -⟩ := id f90_0
      obtain ⟨cl93, Ar93, Cq93, Sz93, Nn93, Hh93, Gg93⟩ := id f90_0
      have hin93 : ¬ ((0 : Int32) < 0 ∨ cl93.slots.size ≤ ((0 : Int32)).toNatClampNeg) := inb_of Sz93 ⟨by decide, by decide⟩
      have hat93 : cl93.slots[((0 : Int32)).toNatClampNeg]? = some (.int (nar .char (((((nar .byte ((((i1 &&& (65535 : Int32)).toUInt32 >>> ((8 : Int32) &&& 31).toUInt32).toInt32).toInt8.toInt32)) &&& (255 : Int32)) <<< ((8 : Int32) &&& 31)) ||| ((nar .byte ((i1 &&& (65535 : Int32)).toInt8.toInt32)) &&& (255 : Int32))).toUInt32.toUInt16.toUInt32.toInt32))) := Hh93.at hin93 rfl
      have pre94 : ∀ t, Steps p.tables e below (T90.setTop (mkF m 181 #[.val (.int i1), .val (.int i2), .val (.int i3), .val (.int i4), .val (.int i5), .val (.int (2 : Int32)), .val (.int (0 : Int32)), .val (.int (4 : Int32)), .val (.int (i1 &&& (65535 : Int32))), .val (.int (i2 &&& (65535 : Int32))), .val (.int (i3 &&& (65535 : Int32))), .val (.ref b80), .val (.ref b90_0), .val (.int (1 : Int32))] [(.int (i1 &&& (65535 : Int32))), (.int (nar .char (((((nar .byte ((((i1 &&& (65535 : Int32)).toUInt32 >>> ((8 : Int32) &&& 31).toUInt32).toInt32).toInt8.toInt32)) &&& (255 : Int32)) <<< ((8 : Int32) &&& 31)) ||| ((nar .byte ((i1 &&& (65535 : Int32)).toInt8.toInt32)) &&& (255 : Int32))).toUInt32.toUInt16.toUInt32.toInt32)))])) t → Steps p.tables e below (s₁.setTop (entryFrame m #[(.int i1), (.int i2), (.int i3), (.int i4), (.int i5)] maxLocals)) t := by
        intro t k
        refine pre79 _ ?_
        show Steps p.tables e below (s₁.setTop (mkF m 22 #[.val (.int i1), .val (.int i2), .val (.int i3), .val (.int i4), .val (.int i5), .val (.int (2 : Int32)), .val (.int (0 : Int32)), .unset, .unset, .unset, .unset, .unset, .unset, .unset] [])) _
        refine XS.iconst X0.here hx rfl (hb hby at_22) ?_
        show Steps p.tables e below (s₁.setTop (mkF m 23 #[.val (.int i1), .val (.int i2), .val (.int i3), .val (.int i4), .val (.int i5), .val (.int (2 : Int32)), .val (.int (0 : Int32)), .unset, .unset, .unset, .unset, .unset, .unset, .unset] [(.int (2 : Int32))])) _
        refine XS.iload X0.here hx rfl (hb hby at_23) rfl ?_
        show Steps p.tables e below (s₁.setTop (mkF m 25 #[.val (.int i1), .val (.int i2), .val (.int i3), .val (.int i4), .val (.int i5), .val (.int (2 : Int32)), .val (.int (0 : Int32)), .unset, .unset, .unset, .unset, .unset, .unset, .unset] [(.int (2 : Int32)), (.int (2 : Int32))])) _
        refine XS.imul X0.here hx rfl (hb hby at_25) rfl ?_
        show Steps p.tables e below (s₁.setTop (mkF m 26 #[.val (.int i1), .val (.int i2), .val (.int i3), .val (.int i4), .val (.int i5), .val (.int (2 : Int32)), .val (.int (0 : Int32)), .unset, .unset, .unset, .unset, .unset, .unset, .unset] [(.int (4 : Int32))])) _
        refine XS.iload X0.here hx rfl (hb hby at_26) rfl ?_
        show Steps p.tables e below (s₁.setTop (mkF m 28 #[.val (.int i1), .val (.int i2), .val (.int i3), .val (.int i4), .val (.int i5), .val (.int (2 : Int32)), .val (.int (0 : Int32)), .unset, .unset, .unset, .unset, .unset, .unset, .unset] [(.int (0 : Int32)), (.int (4 : Int32))])) _
        refine XS.ifYes X0.here hx rfl (pc0 := 28) (pc' := 35) rfl (hb hby at_28) rfl ((if0 _ _).trans (teq (by decide : (0 : Int32) = (0 : Int32))).1) (by decide) (by decide) ?_
        show Steps p.tables e below (s₁.setTop (mkF m 35 #[.val (.int i1), .val (.int i2), .val (.int i3), .val (.int i4), .val (.int i5), .val (.int (2 : Int32)), .val (.int (0 : Int32)), .unset, .unset, .unset, .unset, .unset, .unset, .unset] [(.int (4 : Int32))])) _
        refine XS.iconst X0.here hx rfl (hb hby at_35) ?_
        show Steps p.tables e below (s₁.setTop (mkF m 36 #[.val (.int i1), .val (.int i2), .val (.int i3), .val (.int i4), .val (.int i5), .val (.int (2 : Int32)), .val (.int (0 : Int32)), .unset, .unset, .unset, .unset, .unset, .unset, .unset] [(.int (0 : Int32)), (.int (4 : Int32))])) _
        refine XS.iadd X0.here hx rfl (hb hby at_36) rfl ?_
        show Steps p.tables e below (s₁.setTop (mkF m 37 #[.val (.int i1), .val (.int i2), .val (.int i3), .val (.int i4), .val (.int i5), .val (.int (2 : Int32)), .val (.int (0 : Int32)), .unset, .unset, .unset, .unset, .unset, .unset, .unset] [(.int (4 : Int32))])) _
        refine XS.istore X0.here hx rfl (hb hby at_37) rfl (l' := #[.val (.int i1), .val (.int i2), .val (.int i3), .val (.int i4), .val (.int i5), .val (.int (2 : Int32)), .val (.int (0 : Int32)), .val (.int (4 : Int32)), .unset, .unset, .unset, .unset, .unset, .unset]) rfl ?_
        show Steps p.tables e below (s₁.setTop (mkF m 39 #[.val (.int i1), .val (.int i2), .val (.int i3), .val (.int i4), .val (.int i5), .val (.int (2 : Int32)), .val (.int (0 : Int32)), .val (.int (4 : Int32)), .unset, .unset, .unset, .unset, .unset, .unset] [])) _
        refine XS.iloadN X0.here hx rfl (hb hby at_39) rfl ?_
        show Steps p.tables e below (s₁.setTop (mkF m 40 #[.val (.int i1), .val (.int i2), .val (.int i3), .val (.int i4), .val (.int i5), .val (.int (2 : Int32)), .val (.int (0 : Int32)), .val (.int (4 : Int32)), .unset, .unset, .unset, .unset, .unset, .unset] [(.int i1)])) _
        refine X0.ldcInt hx hown (mvT hZ (hw _ (List.mem_of_getElem? (i := 0) rfl))) (g := (mkF m 40 #[.val (.int i1), .val (.int i2), .val (.int i3), .val (.int i4), .val (.int i5), .val (.int (2 : Int32)), .val (.int (0 : Int32)), .val (.int (4 : Int32)), .unset, .unset, .unset, .unset, .unset, .unset] [(.int i1)])) rfl (hb hby at_40) _ ?_
        show Steps p.tables e below (s₁.setTop (mkF m 42 #[.val (.int i1), .val (.int i2), .val (.int i3), .val (.int i4), .val (.int i5), .val (.int (2 : Int32)), .val (.int (0 : Int32)), .val (.int (4 : Int32)), .unset, .unset, .unset, .unset, .unset, .unset] [(.int (65535 : Int32)), (.int i1)])) _
        refine XS.iand X0.here hx rfl (hb hby at_42) rfl ?_
        show Steps p.tables e below (s₁.setTop (mkF m 43 #[.val (.int i1), .val (.int i2), .val (.int i3), .val (.int i4), .val (.int i5), .val (.int (2 : Int32)), .val (.int (0 : Int32)), .val (.int (4 : Int32)), .unset, .unset, .unset, .unset, .unset, .unset] [(.int (i1 &&& (65535 : Int32)))])) _
        refine XS.istore X0.here hx rfl (hb hby at_43) rfl (l' := #[.val (.int i1), .val (.int i2), .val (.int i3), .val (.int i4), .val (.int i5), .val (.int (2 : Int32)), .val (.int (0 : Int32)), .val (.int (4 : Int32)), .val (.int (i1 &&& (65535 : Int32))), .unset, .unset, .unset, .unset, .unset]) rfl ?_
        show Steps p.tables e below (s₁.setTop (mkF m 45 #[.val (.int i1), .val (.int i2), .val (.int i3), .val (.int i4), .val (.int i5), .val (.int (2 : Int32)), .val (.int (0 : Int32)), .val (.int (4 : Int32)), .val (.int (i1 &&& (65535 : Int32))), .unset, .unset, .unset, .unset, .unset] [])) _
        refine XS.iloadN X0.here hx rfl (hb hby at_45) rfl ?_
        show Steps p.tables e below (s₁.setTop (mkF m 46 #[.val (.int i1), .val (.int i2), .val (.int i3), .val (.int i4), .val (.int i5), .val (.int (2 : Int32)), .val (.int (0 : Int32)), .val (.int (4 : Int32)), .val (.int (i1 &&& (65535 : Int32))), .unset, .unset, .unset, .unset, .unset] [(.int i2)])) _
        refine X0.ldcInt hx hown (mvT hZ (hw _ (List.mem_of_getElem? (i := 0) rfl))) (g := (mkF m 46 #[.val (.int i1), .val (.int i2), .val (.int i3), .val (.int i4), .val (.int i5), .val (.int (2 : Int32)), .val (.int (0 : Int32)), .val (.int (4 : Int32)), .val (.int (i1 &&& (65535 : Int32))), .unset, .unset, .unset, .unset, .unset] [(.int i2)])) rfl (hb hby at_46) _ ?_
        show Steps p.tables e below (s₁.setTop (mkF m 48 #[.val (.int i1), .val (.int i2), .val (.int i3), .val (.int i4), .val (.int i5), .val (.int (2 : Int32)), .val (.int (0 : Int32)), .val (.int (4 : Int32)), .val (.int (i1 &&& (65535 : Int32))), .unset, .unset, .unset, .unset, .unset] [(.int (65535 : Int32)), (.int i2)])) _
        refine XS.iand X0.here hx rfl (hb hby at_48) rfl ?_
        show Steps p.tables e below (s₁.setTop (mkF m 49 #[.val (.int i1), .val (.int i2), .val (.int i3), .val (.int i4), .val (.int i5), .val (.int (2 : Int32)), .val (.int (0 : Int32)), .val (.int (4 : Int32)), .val (.int (i1 &&& (65535 : Int32))), .unset, .unset, .unset, .unset, .unset] [(.int (i2 &&& (65535 : Int32)))])) _
        refine XS.istore X0.here hx rfl (hb hby at_49) rfl (l' := #[.val (.int i1), .val (.int i2), .val (.int i3), .val (.int i4), .val (.int i5), .val (.int (2 : Int32)), .val (.int (0 : Int32)), .val (.int (4 : Int32)), .val (.int (i1 &&& (65535 : Int32))), .val (.int (i2 &&& (65535 : Int32))), .unset, .unset, .unset, .unset]) rfl ?_
        show Steps p.tables e below (s₁.setTop (mkF m 51 #[.val (.int i1), .val (.int i2), .val (.int i3), .val (.int i4), .val (.int i5), .val (.int (2 : Int32)), .val (.int (0 : Int32)), .val (.int (4 : Int32)), .val (.int (i1 &&& (65535 : Int32))), .val (.int (i2 &&& (65535 : Int32))), .unset, .unset, .unset, .unset] [])) _
        refine XS.iloadN X0.here hx rfl (hb hby at_51) rfl ?_
        show Steps p.tables e below (s₁.setTop (mkF m 52 #[.val (.int i1), .val (.int i2), .val (.int i3), .val (.int i4), .val (.int i5), .val (.int (2 : Int32)), .val (.int (0 : Int32)), .val (.int (4 : Int32)), .val (.int (i1 &&& (65535 : Int32))), .val (.int (i2 &&& (65535 : Int32))), .unset, .unset, .unset, .unset] [(.int i3)])) _
        refine X0.ldcInt hx hown (mvT hZ (hw _ (List.mem_of_getElem? (i := 0) rfl))) (g := (mkF m 52 #[.val (.int i1), .val (.int i2), .val (.int i3), .val (.int i4), .val (.int i5), .val (.int (2 : Int32)), .val (.int (0 : Int32)), .val (.int (4 : Int32)), .val (.int (i1 &&& (65535 : Int32))), .val (.int (i2 &&& (65535 : Int32))), .unset, .unset, .unset, .unset] [(.int i3)])) rfl (hb hby at_52) _ ?_
        show Steps p.tables e below (s₁.setTop (mkF m 54 #[.val (.int i1), .val (.int i2), .val (.int i3), .val (.int i4), .val (.int i5), .val (.int (2 : Int32)), .val (.int (0 : Int32)), .val (.int (4 : Int32)), .val (.int (i1 &&& (65535 : Int32))), .val (.int (i2 &&& (65535 : Int32))), .unset, .unset, .unset, .unset] [(.int (65535 : Int32)), (.int i3)])) _
        refine XS.iand X0.here hx rfl (hb hby at_54) rfl ?_
        show Steps p.tables e below (s₁.setTop (mkF m 55 #[.val (.int i1), .val (.int i2), .val (.int i3), .val (.int i4), .val (.int i5), .val (.int (2 : Int32)), .val (.int (0 : Int32)), .val (.int (4 : Int32)), .val (.int (i1 &&& (65535 : Int32))), .val (.int (i2 &&& (65535 : Int32))), .unset, .unset, .unset, .unset] [(.int (i3 &&& (65535 : Int32)))])) _
        refine XS.istore X0.here hx rfl (hb hby at_55) rfl (l' := #[.val (.int i1), .val (.int i2), .val (.int i3), .val (.int i4), .val (.int i5), .val (.int (2 : Int32)), .val (.int (0 : Int32)), .val (.int (4 : Int32)), .val (.int (i1 &&& (65535 : Int32))), .val (.int (i2 &&& (65535 : Int32))), .val (.int (i3 &&& (65535 : Int32))), .unset, .unset, .unset]) rfl ?_
        show Steps p.tables e below (s₁.setTop (mkF m 57 #[.val (.int i1), .val (.int i2), .val (.int i3), .val (.int i4), .val (.int i5), .val (.int (2 : Int32)), .val (.int (0 : Int32)), .val (.int (4 : Int32)), .val (.int (i1 &&& (65535 : Int32))), .val (.int (i2 &&& (65535 : Int32))), .val (.int (i3 &&& (65535 : Int32))), .unset, .unset, .unset] [])) _
        refine XS.iload X0.here hx rfl (hb hby at_57) rfl ?_
        show Steps p.tables e below (s₁.setTop (mkF m 59 #[.val (.int i1), .val (.int i2), .val (.int i3), .val (.int i4), .val (.int i5), .val (.int (2 : Int32)), .val (.int (0 : Int32)), .val (.int (4 : Int32)), .val (.int (i1 &&& (65535 : Int32))), .val (.int (i2 &&& (65535 : Int32))), .val (.int (i3 &&& (65535 : Int32))), .unset, .unset, .unset] [(.int (4 : Int32))])) _
        refine st80 _ ?_
        show Steps p.tables e below (T80.setTop (mkF m 61 #[.val (.int i1), .val (.int i2), .val (.int i3), .val (.int i4), .val (.int i5), .val (.int (2 : Int32)), .val (.int (0 : Int32)), .val (.int (4 : Int32)), .val (.int (i1 &&& (65535 : Int32))), .val (.int (i2 &&& (65535 : Int32))), .val (.int (i3 &&& (65535 : Int32))), .unset, .unset, .unset] [(.ref b80)])) _
        refine XS.astore X80.here hx rfl (hb hby at_61) rfl rfl (l' := #[.val (.int i1), .val (.int i2), .val (.int i3), .val (.int i4), .val (.int i5), .val (.int (2 : Int32)), .val (.int (0 : Int32)), .val (.int (4 : Int32)), .val (.int (i1 &&& (65535 : Int32))), .val (.int (i2 &&& (65535 : Int32))), .val (.int (i3 &&& (65535 : Int32))), .val (.ref b80), .unset, .unset]) rfl ?_
        show Steps p.tables e below (T80.setTop (mkF m 63 #[.val (.int i1), .val (.int i2), .val (.int i3), .val (.int i4), .val (.int i5), .val (.int (2 : Int32)), .val (.int (0 : Int32)), .val (.int (4 : Int32)), .val (.int (i1 &&& (65535 : Int32))), .val (.int (i2 &&& (65535 : Int32))), .val (.int (i3 &&& (65535 : Int32))), .val (.ref b80), .unset, .unset] [])) _
        refine XS.iload X80.here hx rfl (hb hby at_63) rfl ?_
        show Steps p.tables e below (T80.setTop (mkF m 65 #[.val (.int i1), .val (.int i2), .val (.int i3), .val (.int i4), .val (.int i5), .val (.int (2 : Int32)), .val (.int (0 : Int32)), .val (.int (4 : Int32)), .val (.int (i1 &&& (65535 : Int32))), .val (.int (i2 &&& (65535 : Int32))), .val (.int (i3 &&& (65535 : Int32))), .val (.ref b80), .unset, .unset] [(.int (2 : Int32))])) _
        refine XS.ifNo X80.here hx rfl (hb hby at_65) rfl ((if0 _ _).trans (tlt (by decide : (0 : Int32) < (2 : Int32))).2.2.2) ?_
        show Steps p.tables e below (T80.setTop (mkF m 68 #[.val (.int i1), .val (.int i2), .val (.int i3), .val (.int i4), .val (.int i5), .val (.int (2 : Int32)), .val (.int (0 : Int32)), .val (.int (4 : Int32)), .val (.int (i1 &&& (65535 : Int32))), .val (.int (i2 &&& (65535 : Int32))), .val (.int (i3 &&& (65535 : Int32))), .val (.ref b80), .unset, .unset] [])) _
        refine XS.aload X80.here hx rfl (hb hby at_68) rfl rfl ?_
        show Steps p.tables e below (T80.setTop (mkF m 70 #[.val (.int i1), .val (.int i2), .val (.int i3), .val (.int i4), .val (.int i5), .val (.int (2 : Int32)), .val (.int (0 : Int32)), .val (.int (4 : Int32)), .val (.int (i1 &&& (65535 : Int32))), .val (.int (i2 &&& (65535 : Int32))), .val (.int (i3 &&& (65535 : Int32))), .val (.ref b80), .unset, .unset] [(.ref b80)])) _
        refine XS.iconst X80.here hx rfl (hb hby at_70) ?_
        show Steps p.tables e below (T80.setTop (mkF m 71 #[.val (.int i1), .val (.int i2), .val (.int i3), .val (.int i4), .val (.int i5), .val (.int (2 : Int32)), .val (.int (0 : Int32)), .val (.int (4 : Int32)), .val (.int (i1 &&& (65535 : Int32))), .val (.int (i2 &&& (65535 : Int32))), .val (.int (i3 &&& (65535 : Int32))), .val (.ref b80), .unset, .unset] [(.int (0 : Int32)), (.ref b80)])) _
        refine XS.iload X80.here hx rfl (hb hby at_71) rfl ?_
        show Steps p.tables e below (T80.setTop (mkF m 73 #[.val (.int i1), .val (.int i2), .val (.int i3), .val (.int i4), .val (.int i5), .val (.int (2 : Int32)), .val (.int (0 : Int32)), .val (.int (4 : Int32)), .val (.int (i1 &&& (65535 : Int32))), .val (.int (i2 &&& (65535 : Int32))), .val (.int (i3 &&& (65535 : Int32))), .val (.ref b80), .unset, .unset] [(.int (i1 &&& (65535 : Int32))), (.int (0 : Int32)), (.ref b80)])) _
        refine XS.bipush X80.here hx rfl (hb hby at_73) ?_
        show Steps p.tables e below (T80.setTop (mkF m 75 #[.val (.int i1), .val (.int i2), .val (.int i3), .val (.int i4), .val (.int i5), .val (.int (2 : Int32)), .val (.int (0 : Int32)), .val (.int (4 : Int32)), .val (.int (i1 &&& (65535 : Int32))), .val (.int (i2 &&& (65535 : Int32))), .val (.int (i3 &&& (65535 : Int32))), .val (.ref b80), .unset, .unset] [(.int (8 : Int32)), (.int (i1 &&& (65535 : Int32))), (.int (0 : Int32)), (.ref b80)])) _
        refine XS.iushr X80.here hx rfl (hb hby at_75) rfl ?_
        show Steps p.tables e below (T80.setTop (mkF m 76 #[.val (.int i1), .val (.int i2), .val (.int i3), .val (.int i4), .val (.int i5), .val (.int (2 : Int32)), .val (.int (0 : Int32)), .val (.int (4 : Int32)), .val (.int (i1 &&& (65535 : Int32))), .val (.int (i2 &&& (65535 : Int32))), .val (.int (i3 &&& (65535 : Int32))), .val (.ref b80), .unset, .unset] [(.int (((i1 &&& (65535 : Int32)).toUInt32 >>> ((8 : Int32) &&& 31).toUInt32).toInt32)), (.int (0 : Int32)), (.ref b80)])) _
        refine XS.i2b X80.here hx rfl (hb hby at_76) rfl ?_
        show Steps p.tables e below (T80.setTop (mkF m 77 #[.val (.int i1), .val (.int i2), .val (.int i3), .val (.int i4), .val (.int i5), .val (.int (2 : Int32)), .val (.int (0 : Int32)), .val (.int (4 : Int32)), .val (.int (i1 &&& (65535 : Int32))), .val (.int (i2 &&& (65535 : Int32))), .val (.int (i3 &&& (65535 : Int32))), .val (.ref b80), .unset, .unset] [(.int ((((i1 &&& (65535 : Int32)).toUInt32 >>> ((8 : Int32) &&& 31).toUInt32).toInt32).toInt8.toInt32)), (.int (0 : Int32)), (.ref b80)])) _
        refine st82 _ ?_
        show Steps p.tables e below (T82.setTop (mkF m 78 #[.val (.int i1), .val (.int i2), .val (.int i3), .val (.int i4), .val (.int i5), .val (.int (2 : Int32)), .val (.int (0 : Int32)), .val (.int (4 : Int32)), .val (.int (i1 &&& (65535 : Int32))), .val (.int (i2 &&& (65535 : Int32))), .val (.int (i3 &&& (65535 : Int32))), .val (.ref b80), .unset, .unset] [])) _
        refine XS.aload X82.here hx rfl (hb hby at_78) rfl rfl ?_
        show Steps p.tables e below (T82.setTop (mkF m 80 #[.val (.int i1), .val (.int i2), .val (.int i3), .val (.int i4), .val (.int i5), .val (.int (2 : Int32)), .val (.int (0 : Int32)), .val (.int (4 : Int32)), .val (.int (i1 &&& (65535 : Int32))), .val (.int (i2 &&& (65535 : Int32))), .val (.int (i3 &&& (65535 : Int32))), .val (.ref b80), .unset, .unset] [(.ref b80)])) _
        refine XS.iconst X82.here hx rfl (hb hby at_80) ?_
        show Steps p.tables e below (T82.setTop (mkF m 81 #[.val (.int i1), .val (.int i2), .val (.int i3), .val (.int i4), .val (.int i5), .val (.int (2 : Int32)), .val (.int (0 : Int32)), .val (.int (4 : Int32)), .val (.int (i1 &&& (65535 : Int32))), .val (.int (i2 &&& (65535 : Int32))), .val (.int (i3 &&& (65535 : Int32))), .val (.ref b80), .unset, .unset] [(.int (1 : Int32)), (.ref b80)])) _
        refine XS.iload X82.here hx rfl (hb hby at_81) rfl ?_
        show Steps p.tables e below (T82.setTop (mkF m 83 #[.val (.int i1), .val (.int i2), .val (.int i3), .val (.int i4), .val (.int i5), .val (.int (2 : Int32)), .val (.int (0 : Int32)), .val (.int (4 : Int32)), .val (.int (i1 &&& (65535 : Int32))), .val (.int (i2 &&& (65535 : Int32))), .val (.int (i3 &&& (65535 : Int32))), .val (.ref b80), .unset, .unset] [(.int (i1 &&& (65535 : Int32))), (.int (1 : Int32)), (.ref b80)])) _
        refine XS.i2b X82.here hx rfl (hb hby at_83) rfl ?_
        show Steps p.tables e below (T82.setTop (mkF m 84 #[.val (.int i1), .val (.int i2), .val (.int i3), .val (.int i4), .val (.int i5), .val (.int (2 : Int32)), .val (.int (0 : Int32)), .val (.int (4 : Int32)), .val (.int (i1 &&& (65535 : Int32))), .val (.int (i2 &&& (65535 : Int32))), .val (.int (i3 &&& (65535 : Int32))), .val (.ref b80), .unset, .unset] [(.int ((i1 &&& (65535 : Int32)).toInt8.toInt32)), (.int (1 : Int32)), (.ref b80)])) _
        refine st84 _ ?_
        show Steps p.tables e below (T84.setTop (mkF m 85 #[.val (.int i1), .val (.int i2), .val (.int i3), .val (.int i4), .val (.int i5), .val (.int (2 : Int32)), .val (.int (0 : Int32)), .val (.int (4 : Int32)), .val (.int (i1 &&& (65535 : Int32))), .val (.int (i2 &&& (65535 : Int32))), .val (.int (i3 &&& (65535 : Int32))), .val (.ref b80), .unset, .unset] [])) _
        refine XS.iload X84.here hx rfl (hb hby at_85) rfl ?_
        show Steps p.tables e below (T84.setTop (mkF m 87 #[.val (.int i1), .val (.int i2), .val (.int i3), .val (.int i4), .val (.int i5), .val (.int (2 : Int32)), .val (.int (0 : Int32)), .val (.int (4 : Int32)), .val (.int (i1 &&& (65535 : Int32))), .val (.int (i2 &&& (65535 : Int32))), .val (.int (i3 &&& (65535 : Int32))), .val (.ref b80), .unset, .unset] [(.int (2 : Int32))])) _
        refine XS.iconst X84.here hx rfl (hb hby at_87) ?_
        show Steps p.tables e below (T84.setTop (mkF m 88 #[.val (.int i1), .val (.int i2), .val (.int i3), .val (.int i4), .val (.int i5), .val (.int (2 : Int32)), .val (.int (0 : Int32)), .val (.int (4 : Int32)), .val (.int (i1 &&& (65535 : Int32))), .val (.int (i2 &&& (65535 : Int32))), .val (.int (i3 &&& (65535 : Int32))), .val (.ref b80), .unset, .unset] [(.int (1 : Int32)), (.int (2 : Int32))])) _
        refine XS.icmpNo X84.here hx rfl (hb hby at_88) rfl (tlt (by decide : (1 : Int32) < (2 : Int32))).2.2.2 ?_
        show Steps p.tables e below (T84.setTop (mkF m 91 #[.val (.int i1), .val (.int i2), .val (.int i3), .val (.int i4), .val (.int i5), .val (.int (2 : Int32)), .val (.int (0 : Int32)), .val (.int (4 : Int32)), .val (.int (i1 &&& (65535 : Int32))), .val (.int (i2 &&& (65535 : Int32))), .val (.int (i3 &&& (65535 : Int32))), .val (.ref b80), .unset, .unset] [])) _
        refine XS.aload X84.here hx rfl (hb hby at_91) rfl rfl ?_
        show Steps p.tables e below (T84.setTop (mkF m 93 #[.val (.int i1), .val (.int i2), .val (.int i3), .val (.int i4), .val (.int i5), .val (.int (2 : Int32)), .val (.int (0 : Int32)), .val (.int (4 : Int32)), .val (.int (i1 &&& (65535 : Int32))), .val (.int (i2 &&& (65535 : Int32))), .val (.int (i3 &&& (65535 : Int32))), .val (.ref b80), .unset, .unset] [(.ref b80)])) _
        refine XS.iconst X84.here hx rfl (hb hby at_93) ?_
        show Steps p.tables e below (T84.setTop (mkF m 94 #[.val (.int i1), .val (.int i2), .val (.int i3), .val (.int i4), .val (.int i5), .val (.int (2 : Int32)), .val (.int (0 : Int32)), .val (.int (4 : Int32)), .val (.int (i1 &&& (65535 : Int32))), .val (.int (i2 &&& (65535 : Int32))), .val (.int (i3 &&& (65535 : Int32))), .val (.ref b80), .unset, .unset] [(.int (2 : Int32)), (.ref b80)])) _
        refine XS.iload X84.here hx rfl (hb hby at_94) rfl ?_
        show Steps p.tables e below (T84.setTop (mkF m 96 #[.val (.int i1), .val (.int i2), .val (.int i3), .val (.int i4), .val (.int i5), .val (.int (2 : Int32)), .val (.int (0 : Int32)), .val (.int (4 : Int32)), .val (.int (i1 &&& (65535 : Int32))), .val (.int (i2 &&& (65535 : Int32))), .val (.int (i3 &&& (65535 : Int32))), .val (.ref b80), .unset, .unset] [(.int (i2 &&& (65535 : Int32))), (.int (2 : Int32)), (.ref b80)])) _
        refine XS.bipush X84.here hx rfl (hb hby at_96) ?_
        show Steps p.tables e below (T84.setTop (mkF m 98 #[.val (.int i1), .val (.int i2), .val (.int i3), .val (.int i4), .val (.int i5), .val (.int (2 : Int32)), .val (.int (0 : Int32)), .val (.int (4 : Int32)), .val (.int (i1 &&& (65535 : Int32))), .val (.int (i2 &&& (65535 : Int32))), .val (.int (i3 &&& (65535 : Int32))), .val (.ref b80), .unset, .unset] [(.int (8 : Int32)), (.int (i2 &&& (65535 : Int32))), (.int (2 : Int32)), (.ref b80)])) _
        refine XS.iushr X84.here hx rfl (hb hby at_98) rfl ?_
        show Steps p.tables e below (T84.setTop (mkF m 99 #[.val (.int i1), .val (.int i2), .val (.int i3), .val (.int i4), .val (.int i5), .val (.int (2 : Int32)), .val (.int (0 : Int32)), .val (.int (4 : Int32)), .val (.int (i1 &&& (65535 : Int32))), .val (.int (i2 &&& (65535 : Int32))), .val (.int (i3 &&& (65535 : Int32))), .val (.ref b80), .unset, .unset] [(.int (((i2 &&& (65535 : Int32)).toUInt32 >>> ((8 : Int32) &&& 31).toUInt32).toInt32)), (.int (2 : Int32)), (.ref b80)])) _
        refine XS.i2b X84.here hx rfl (hb hby at_99) rfl ?_
        show Steps p.tables e below (T84.setTop (mkF m 100 #[.val (.int i1), .val (.int i2), .val (.int i3), .val (.int i4), .val (.int i5), .val (.int (2 : Int32)), .val (.int (0 : Int32)), .val (.int (4 : Int32)), .val (.int (i1 &&& (65535 : Int32))), .val (.int (i2 &&& (65535 : Int32))), .val (.int (i3 &&& (65535 : Int32))), .val (.ref b80), .unset, .unset] [(.int ((((i2 &&& (65535 : Int32)).toUInt32 >>> ((8 : Int32) &&& 31).toUInt32).toInt32).toInt8.toInt32)), (.int (2 : Int32)), (.ref b80)])) _
        refine st86 _ ?_
        show Steps p.tables e below (T86.setTop (mkF m 101 #[.val (.int i1), .val (.int i2), .val (.int i3), .val (.int i4), .val (.int i5), .val (.int (2 : Int32)), .val (.int (0 : Int32)), .val (.int (4 : Int32)), .val (.int (i1 &&& (65535 : Int32))), .val (.int (i2 &&& (65535 : Int32))), .val (.int (i3 &&& (65535 : Int32))), .val (.ref b80), .unset, .unset] [])) _
        refine XS.aload X86.here hx rfl (hb hby at_101) rfl rfl ?_
        show Steps p.tables e below (T86.setTop (mkF m 103 #[.val (.int i1), .val (.int i2), .val (.int i3), .val (.int i4), .val (.int i5), .val (.int (2 : Int32)), .val (.int (0 : Int32)), .val (.int (4 : Int32)), .val (.int (i1 &&& (65535 : Int32))), .val (.int (i2 &&& (65535 : Int32))), .val (.int (i3 &&& (65535 : Int32))), .val (.ref b80), .unset, .unset] [(.ref b80)])) _
        refine XS.iconst X86.here hx rfl (hb hby at_103) ?_
        show Steps p.tables e below (T86.setTop (mkF m 104 #[.val (.int i1), .val (.int i2), .val (.int i3), .val (.int i4), .val (.int i5), .val (.int (2 : Int32)), .val (.int (0 : Int32)), .val (.int (4 : Int32)), .val (.int (i1 &&& (65535 : Int32))), .val (.int (i2 &&& (65535 : Int32))), .val (.int (i3 &&& (65535 : Int32))), .val (.ref b80), .unset, .unset] [(.int (3 : Int32)), (.ref b80)])) _
        refine XS.iload X86.here hx rfl (hb hby at_104) rfl ?_
        show Steps p.tables e below (T86.setTop (mkF m 106 #[.val (.int i1), .val (.int i2), .val (.int i3), .val (.int i4), .val (.int i5), .val (.int (2 : Int32)), .val (.int (0 : Int32)), .val (.int (4 : Int32)), .val (.int (i1 &&& (65535 : Int32))), .val (.int (i2 &&& (65535 : Int32))), .val (.int (i3 &&& (65535 : Int32))), .val (.ref b80), .unset, .unset] [(.int (i2 &&& (65535 : Int32))), (.int (3 : Int32)), (.ref b80)])) _
        refine XS.i2b X86.here hx rfl (hb hby at_106) rfl ?_
        show Steps p.tables e below (T86.setTop (mkF m 107 #[.val (.int i1), .val (.int i2), .val (.int i3), .val (.int i4), .val (.int i5), .val (.int (2 : Int32)), .val (.int (0 : Int32)), .val (.int (4 : Int32)), .val (.int (i1 &&& (65535 : Int32))), .val (.int (i2 &&& (65535 : Int32))), .val (.int (i3 &&& (65535 : Int32))), .val (.ref b80), .unset, .unset] [(.int ((i2 &&& (65535 : Int32)).toInt8.toInt32)), (.int (3 : Int32)), (.ref b80)])) _
        refine st88 _ ?_
        show Steps p.tables e below (T88.setTop (mkF m 108 #[.val (.int i1), .val (.int i2), .val (.int i3), .val (.int i4), .val (.int i5), .val (.int (2 : Int32)), .val (.int (0 : Int32)), .val (.int (4 : Int32)), .val (.int (i1 &&& (65535 : Int32))), .val (.int (i2 &&& (65535 : Int32))), .val (.int (i3 &&& (65535 : Int32))), .val (.ref b80), .unset, .unset] [])) _
        refine XS.iload X88.here hx rfl (hb hby at_108) rfl ?_
        show Steps p.tables e below (T88.setTop (mkF m 110 #[.val (.int i1), .val (.int i2), .val (.int i3), .val (.int i4), .val (.int i5), .val (.int (2 : Int32)), .val (.int (0 : Int32)), .val (.int (4 : Int32)), .val (.int (i1 &&& (65535 : Int32))), .val (.int (i2 &&& (65535 : Int32))), .val (.int (i3 &&& (65535 : Int32))), .val (.ref b80), .unset, .unset] [(.int (2 : Int32))])) _
        refine XS.iconst X88.here hx rfl (hb hby at_110) ?_
        show Steps p.tables e below (T88.setTop (mkF m 111 #[.val (.int i1), .val (.int i2), .val (.int i3), .val (.int i4), .val (.int i5), .val (.int (2 : Int32)), .val (.int (0 : Int32)), .val (.int (4 : Int32)), .val (.int (i1 &&& (65535 : Int32))), .val (.int (i2 &&& (65535 : Int32))), .val (.int (i3 &&& (65535 : Int32))), .val (.ref b80), .unset, .unset] [(.int (2 : Int32)), (.int (2 : Int32))])) _
        refine XS.icmpYes X88.here hx rfl (pc0 := 111) (pc' := 131) rfl (hb hby at_111) rfl (flt (by decide : ¬ ((2 : Int32) < (2 : Int32)))).2.2.2 (by decide) (by decide) ?_
        show Steps p.tables e below (T88.setTop (mkF m 131 #[.val (.int i1), .val (.int i2), .val (.int i3), .val (.int i4), .val (.int i5), .val (.int (2 : Int32)), .val (.int (0 : Int32)), .val (.int (4 : Int32)), .val (.int (i1 &&& (65535 : Int32))), .val (.int (i2 &&& (65535 : Int32))), .val (.int (i3 &&& (65535 : Int32))), .val (.ref b80), .unset, .unset] [])) _
        refine XS.iload X88.here hx rfl (hb hby at_131) rfl ?_
        show Steps p.tables e below (T88.setTop (mkF m 133 #[.val (.int i1), .val (.int i2), .val (.int i3), .val (.int i4), .val (.int i5), .val (.int (2 : Int32)), .val (.int (0 : Int32)), .val (.int (4 : Int32)), .val (.int (i1 &&& (65535 : Int32))), .val (.int (i2 &&& (65535 : Int32))), .val (.int (i3 &&& (65535 : Int32))), .val (.ref b80), .unset, .unset] [(.int (0 : Int32))])) _
        refine XS.ifYes X88.here hx rfl (pc0 := 133) (pc' := 145) rfl (hb hby at_133) rfl ((if0 _ _).trans (teq (by decide : (0 : Int32) = (0 : Int32))).1) (by decide) (by decide) ?_
        show Steps p.tables e below (T88.setTop (mkF m 145 #[.val (.int i1), .val (.int i2), .val (.int i3), .val (.int i4), .val (.int i5), .val (.int (2 : Int32)), .val (.int (0 : Int32)), .val (.int (4 : Int32)), .val (.int (i1 &&& (65535 : Int32))), .val (.int (i2 &&& (65535 : Int32))), .val (.int (i3 &&& (65535 : Int32))), .val (.ref b80), .unset, .unset] [])) _
        refine XS.aload X88.here hx rfl (hb hby at_145) rfl rfl ?_
        show Steps p.tables e below (T88.setTop (mkF m 147 #[.val (.int i1), .val (.int i2), .val (.int i3), .val (.int i4), .val (.int i5), .val (.int (2 : Int32)), .val (.int (0 : Int32)), .val (.int (4 : Int32)), .val (.int (i1 &&& (65535 : Int32))), .val (.int (i2 &&& (65535 : Int32))), .val (.int (i3 &&& (65535 : Int32))), .val (.ref b80), .unset, .unset] [(.ref b80)])) _
        refine st90 _ ?_
        show Steps p.tables e below (T90.setTop (mkF m 150 #[.val (.int i1), .val (.int i2), .val (.int i3), .val (.int i4), .val (.int i5), .val (.int (2 : Int32)), .val (.int (0 : Int32)), .val (.int (4 : Int32)), .val (.int (i1 &&& (65535 : Int32))), .val (.int (i2 &&& (65535 : Int32))), .val (.int (i3 &&& (65535 : Int32))), .val (.ref b80), .unset, .unset] [(.ref b90_0)])) _
        refine XS.astore X90.here hx rfl (hb hby at_150) rfl rfl (l' := #[.val (.int i1), .val (.int i2), .val (.int i3), .val (.int i4), .val (.int i5), .val (.int (2 : Int32)), .val (.int (0 : Int32)), .val (.int (4 : Int32)), .val (.int (i1 &&& (65535 : Int32))), .val (.int (i2 &&& (65535 : Int32))), .val (.int (i3 &&& (65535 : Int32))), .val (.ref b80), .val (.ref b90_0), .unset]) rfl ?_
        show Steps p.tables e below (T90.setTop (mkF m 152 #[.val (.int i1), .val (.int i2), .val (.int i3), .val (.int i4), .val (.int i5), .val (.int (2 : Int32)), .val (.int (0 : Int32)), .val (.int (4 : Int32)), .val (.int (i1 &&& (65535 : Int32))), .val (.int (i2 &&& (65535 : Int32))), .val (.int (i3 &&& (65535 : Int32))), .val (.ref b80), .val (.ref b90_0), .unset] [])) _
        refine XS.aload X90.here hx rfl (hb hby at_152) rfl rfl ?_
        show Steps p.tables e below (T90.setTop (mkF m 154 #[.val (.int i1), .val (.int i2), .val (.int i3), .val (.int i4), .val (.int i5), .val (.int (2 : Int32)), .val (.int (0 : Int32)), .val (.int (4 : Int32)), .val (.int (i1 &&& (65535 : Int32))), .val (.int (i2 &&& (65535 : Int32))), .val (.int (i3 &&& (65535 : Int32))), .val (.ref b80), .val (.ref b90_0), .unset] [(.ref b90_0)])) _
        refine X90.arraylength hx (by exact Ar92.1) (State.isArrayOf_alike hZ.alike Ar92.2.1) (g := (mkF m 154 #[.val (.int i1), .val (.int i2), .val (.int i3), .val (.int i4), .val (.int i5), .val (.int (2 : Int32)), .val (.int (0 : Int32)), .val (.int (4 : Int32)), .val (.int (i1 &&& (65535 : Int32))), .val (.int (i2 &&& (65535 : Int32))), .val (.int (i3 &&& (65535 : Int32))), .val (.ref b80), .val (.ref b90_0), .unset] [(.ref b90_0)])) rfl rfl (hb hby at_154) _ ?_
        rw [len_of Sz92 Nn92]
        show Steps p.tables e below (T90.setTop (mkF m 155 #[.val (.int i1), .val (.int i2), .val (.int i3), .val (.int i4), .val (.int i5), .val (.int (2 : Int32)), .val (.int (0 : Int32)), .val (.int (4 : Int32)), .val (.int (i1 &&& (65535 : Int32))), .val (.int (i2 &&& (65535 : Int32))), .val (.int (i3 &&& (65535 : Int32))), .val (.ref b80), .val (.ref b90_0), .unset] [(.int (2 : Int32))])) _
        refine XS.iload X90.here hx rfl (hb hby at_155) rfl ?_
        show Steps p.tables e below (T90.setTop (mkF m 157 #[.val (.int i1), .val (.int i2), .val (.int i3), .val (.int i4), .val (.int i5), .val (.int (2 : Int32)), .val (.int (0 : Int32)), .val (.int (4 : Int32)), .val (.int (i1 &&& (65535 : Int32))), .val (.int (i2 &&& (65535 : Int32))), .val (.int (i3 &&& (65535 : Int32))), .val (.ref b80), .val (.ref b90_0), .unset] [(.int (2 : Int32)), (.int (2 : Int32))])) _
        refine XS.icmpYes X90.here hx rfl (pc0 := 157) (pc' := 162) rfl (hb hby at_157) rfl (teq (by decide : (2 : Int32) = (2 : Int32))).1 (by decide) (by decide) ?_
        show Steps p.tables e below (T90.setTop (mkF m 162 #[.val (.int i1), .val (.int i2), .val (.int i3), .val (.int i4), .val (.int i5), .val (.int (2 : Int32)), .val (.int (0 : Int32)), .val (.int (4 : Int32)), .val (.int (i1 &&& (65535 : Int32))), .val (.int (i2 &&& (65535 : Int32))), .val (.int (i3 &&& (65535 : Int32))), .val (.ref b80), .val (.ref b90_0), .unset] [])) _
        refine XS.iconst X90.here hx rfl (hb hby at_162) ?_
        show Steps p.tables e below (T90.setTop (mkF m 163 #[.val (.int i1), .val (.int i2), .val (.int i3), .val (.int i4), .val (.int i5), .val (.int (2 : Int32)), .val (.int (0 : Int32)), .val (.int (4 : Int32)), .val (.int (i1 &&& (65535 : Int32))), .val (.int (i2 &&& (65535 : Int32))), .val (.int (i3 &&& (65535 : Int32))), .val (.ref b80), .val (.ref b90_0), .unset] [(.int (1 : Int32))])) _
        refine XS.istore X90.here hx rfl (hb hby at_163) rfl (l' := #[.val (.int i1), .val (.int i2), .val (.int i3), .val (.int i4), .val (.int i5), .val (.int (2 : Int32)), .val (.int (0 : Int32)), .val (.int (4 : Int32)), .val (.int (i1 &&& (65535 : Int32))), .val (.int (i2 &&& (65535 : Int32))), .val (.int (i3 &&& (65535 : Int32))), .val (.ref b80), .val (.ref b90_0), .val (.int (1 : Int32))]) rfl ?_
        show Steps p.tables e below (T90.setTop (mkF m 165 #[.val (.int i1), .val (.int i2), .val (.int i3), .val (.int i4), .val (.int i5), .val (.int (2 : Int32)), .val (.int (0 : Int32)), .val (.int (4 : Int32)), .val (.int (i1 &&& (65535 : Int32))), .val (.int (i2 &&& (65535 : Int32))), .val (.int (i3 &&& (65535 : Int32))), .val (.ref b80), .val (.ref b90_0), .val (.int (1 : Int32))] [])) _
        refine XS.iload X90.here hx rfl (hb hby at_165) rfl ?_
        show Steps p.tables e below (T90.setTop (mkF m 167 #[.val (.int i1), .val (.int i2), .val (.int i3), .val (.int i4), .val (.int i5), .val (.int (2 : Int32)), .val (.int (0 : Int32)), .val (.int (4 : Int32)), .val (.int (i1 &&& (65535 : Int32))), .val (.int (i2 &&& (65535 : Int32))), .val (.int (i3 &&& (65535 : Int32))), .val (.ref b80), .val (.ref b90_0), .val (.int (1 : Int32))] [(.int (2 : Int32))])) _
        refine XS.ifNo X90.here hx rfl (hb hby at_167) rfl ((if0 _ _).trans (tlt (by decide : (0 : Int32) < (2 : Int32))).2.2.2) ?_
        show Steps p.tables e below (T90.setTop (mkF m 170 #[.val (.int i1), .val (.int i2), .val (.int i3), .val (.int i4), .val (.int i5), .val (.int (2 : Int32)), .val (.int (0 : Int32)), .val (.int (4 : Int32)), .val (.int (i1 &&& (65535 : Int32))), .val (.int (i2 &&& (65535 : Int32))), .val (.int (i3 &&& (65535 : Int32))), .val (.ref b80), .val (.ref b90_0), .val (.int (1 : Int32))] [])) _
        refine XS.iload X90.here hx rfl (hb hby at_170) rfl ?_
        show Steps p.tables e below (T90.setTop (mkF m 172 #[.val (.int i1), .val (.int i2), .val (.int i3), .val (.int i4), .val (.int i5), .val (.int (2 : Int32)), .val (.int (0 : Int32)), .val (.int (4 : Int32)), .val (.int (i1 &&& (65535 : Int32))), .val (.int (i2 &&& (65535 : Int32))), .val (.int (i3 &&& (65535 : Int32))), .val (.ref b80), .val (.ref b90_0), .val (.int (1 : Int32))] [(.int (1 : Int32))])) _
        refine XS.ifNo X90.here hx rfl (hb hby at_172) rfl ((if0 _ _).trans (feq (by decide : ¬ ((1 : Int32) = (0 : Int32)))).1) ?_
        show Steps p.tables e below (T90.setTop (mkF m 175 #[.val (.int i1), .val (.int i2), .val (.int i3), .val (.int i4), .val (.int i5), .val (.int (2 : Int32)), .val (.int (0 : Int32)), .val (.int (4 : Int32)), .val (.int (i1 &&& (65535 : Int32))), .val (.int (i2 &&& (65535 : Int32))), .val (.int (i3 &&& (65535 : Int32))), .val (.ref b80), .val (.ref b90_0), .val (.int (1 : Int32))] [])) _
        refine XS.aload X90.here hx rfl (hb hby at_175) rfl rfl ?_
        show Steps p.tables e below (T90.setTop (mkF m 177 #[.val (.int i1), .val (.int i2), .val (.int i3), .val (.int i4), .val (.int i5), .val (.int (2 : Int32)), .val (.int (0 : Int32)), .val (.int (4 : Int32)), .val (.int (i1 &&& (65535 : Int32))), .val (.int (i2 &&& (65535 : Int32))), .val (.int (i3 &&& (65535 : Int32))), .val (.ref b80), .val (.ref b90_0), .val (.int (1 : Int32))] [(.ref b90_0)])) _
        refine XS.iconst X90.here hx rfl (hb hby at_177) ?_
        show Steps p.tables e below (T90.setTop (mkF m 178 #[.val (.int i1), .val (.int i2), .val (.int i3), .val (.int i4), .val (.int i5), .val (.int (2 : Int32)), .val (.int (0 : Int32)), .val (.int (4 : Int32)), .val (.int (i1 &&& (65535 : Int32))), .val (.int (i2 &&& (65535 : Int32))), .val (.int (i3 &&& (65535 : Int32))), .val (.ref b80), .val (.ref b90_0), .val (.int (1 : Int32))] [(.int (0 : Int32)), (.ref b90_0)])) _
        refine X90.caload hx (j := (0 : Int32)) (v := (.int (nar .char (((((nar .byte ((((i1 &&& (65535 : Int32)).toUInt32 >>> ((8 : Int32) &&& 31).toUInt32).toInt32).toInt8.toInt32)) &&& (255 : Int32)) <<< ((8 : Int32) &&& 31)) ||| ((nar .byte ((i1 &&& (65535 : Int32)).toInt8.toInt32)) &&& (255 : Int32))).toUInt32.toUInt16.toUInt32.toInt32)))) (by exact Ar93.1) (State.isArrayOf_alike hZ.alike Ar93.2.1) Ar93.2.2 hin93 hat93 (g := (mkF m 178 #[.val (.int i1), .val (.int i2), .val (.int i3), .val (.int i4), .val (.int i5), .val (.int (2 : Int32)), .val (.int (0 : Int32)), .val (.int (4 : Int32)), .val (.int (i1 &&& (65535 : Int32))), .val (.int (i2 &&& (65535 : Int32))), .val (.int (i3 &&& (65535 : Int32))), .val (.ref b80), .val (.ref b90_0), .val (.int (1 : Int32))] [(.int (0 : Int32)), (.ref b90_0)])) rfl rfl (hb hby at_178) _ ?_
        show Steps p.tables e below (T90.setTop (mkF m 179 #[.val (.int i1), .val (.int i2), .val (.int i3), .val (.int i4), .val (.int i5), .val (.int (2 : Int32)), .val (.int (0 : Int32)), .val (.int (4 : Int32)), .val (.int (i1 &&& (65535 : Int32))), .val (.int (i2 &&& (65535 : Int32))), .val (.int (i3 &&& (65535 : Int32))), .val (.ref b80), .val (.ref b90_0), .val (.int (1 : Int32))] [(.int (nar .char (((((nar .byte ((((i1 &&& (65535 : Int32)).toUInt32 >>> ((8 : Int32) &&& 31).toUInt32).toInt32).toInt8.toInt32)) &&& (255 : Int32)) <<< ((8 : Int32) &&& 31)) ||| ((nar .byte ((i1 &&& (65535 : Int32)).toInt8.toInt32)) &&& (255 : Int32))).toUInt32.toUInt16.toUInt32.toInt32)))])) _
        refine XS.iload X90.here hx rfl (hb hby at_179) rfl ?_
        exact k
      have pre98 : ∀ t, Steps p.tables e below (T90.setTop (mkF m 189 #[.val (.int i1), .val (.int i2), .val (.int i3), .val (.int i4), .val (.int i5), .val (.int (2 : Int32)), .val (.int (0 : Int32)), .val (.int (4 : Int32)), .val (.int (i1 &&& (65535 : Int32))), .val (.int (i2 &&& (65535 : Int32))), .val (.int (i3 &&& (65535 : Int32))), .val (.ref b80), .val (.ref b90_0), .val (.int (1 : Int32))] [(.int (own_j0_181_0 i1))])) t → Steps p.tables e below (s₁.setTop (entryFrame m #[(.int i1), (.int i2), (.int i3), (.int i4), (.int i5)] maxLocals)) t := by
        by_cases hc181_95 : (nar .char (((((nar .byte ((((i1 &&& (65535 : Int32)).toUInt32 >>> ((8 : Int32) &&& 31).toUInt32).toInt32).toInt8.toInt32)) &&& (255 : Int32)) <<< ((8 : Int32) &&& 31)) ||| ((nar .byte ((i1 &&& (65535 : Int32)).toInt8.toInt32)) &&& (255 : Int32))).toUInt32.toUInt16.toUInt32.toInt32)) = (i1 &&& (65535 : Int32))
        · have pre96 : ∀ t, Steps p.tables e below (T90.setTop (mkF m 189 #[.val (.int i1), .val (.int i2), .val (.int i3), .val (.int i4), .val (.int i5), .val (.int (2 : Int32)), .val (.int (0 : Int32)), .val (.int (4 : Int32)), .val (.int (i1 &&& (65535 : Int32))), .val (.int (i2 &&& (65535 : Int32))), .val (.int (i3 &&& (65535 : Int32))), .val (.ref b80), .val (.ref b90_0), .val (.int (1 : Int32))] [(.int (1 : Int32))])) t → Steps p.tables e below (s₁.setTop (entryFrame m #[(.int i1), (.int i2), (.int i3), (.int i4), (.int i5)] maxLocals)) t := by
            intro t k
            refine pre94 _ ?_
            show Steps p.tables e below (T90.setTop (mkF m 181 #[.val (.int i1), .val (.int i2), .val (.int i3), .val (.int i4), .val (.int i5), .val (.int (2 : Int32)), .val (.int (0 : Int32)), .val (.int (4 : Int32)), .val (.int (i1 &&& (65535 : Int32))), .val (.int (i2 &&& (65535 : Int32))), .val (.int (i3 &&& (65535 : Int32))), .val (.ref b80), .val (.ref b90_0), .val (.int (1 : Int32))] [(.int (i1 &&& (65535 : Int32))), (.int (nar .char (((((nar .byte ((((i1 &&& (65535 : Int32)).toUInt32 >>> ((8 : Int32) &&& 31).toUInt32).toInt32).toInt8.toInt32)) &&& (255 : Int32)) <<< ((8 : Int32) &&& 31)) ||| ((nar .byte ((i1 &&& (65535 : Int32)).toInt8.toInt32)) &&& (255 : Int32))).toUInt32.toUInt16.toUInt32.toInt32)))])) _
            refine XS.icmpNo X90.here hx rfl (hb hby at_181) rfl (teq hc181_95).2 ?_
            show Steps p.tables e below (T90.setTop (mkF m 184 #[.val (.int i1), .val (.int i2), .val (.int i3), .val (.int i4), .val (.int i5), .val (.int (2 : Int32)), .val (.int (0 : Int32)), .val (.int (4 : Int32)), .val (.int (i1 &&& (65535 : Int32))), .val (.int (i2 &&& (65535 : Int32))), .val (.int (i3 &&& (65535 : Int32))), .val (.ref b80), .val (.ref b90_0), .val (.int (1 : Int32))] [])) _
            refine XS.iconst X90.here hx rfl (hb hby at_184) ?_
            show Steps p.tables e below (T90.setTop (mkF m 185 #[.val (.int i1), .val (.int i2), .val (.int i3), .val (.int i4), .val (.int i5), .val (.int (2 : Int32)), .val (.int (0 : Int32)), .val (.int (4 : Int32)), .val (.int (i1 &&& (65535 : Int32))), .val (.int (i2 &&& (65535 : Int32))), .val (.int (i3 &&& (65535 : Int32))), .val (.ref b80), .val (.ref b90_0), .val (.int (1 : Int32))] [(.int (1 : Int32))])) _
            refine XS.goto X90.here hx rfl (pc0 := 185) (pc' := 189) rfl (hb hby at_185) (by decide) (by decide) ?_
            exact k
          exact fun t k => pre96 t (by rw [show (own_j0_181_0 i1) = (1 : Int32) from (if_pos hc181_95)] at k; exact k)
        · have pre97 : ∀ t, Steps p.tables e below (T90.setTop (mkF m 189 #[.val (.int i1), .val (.int i2), .val (.int i3), .val (.int i4), .val (.int i5), .val (.int (2 : Int32)), .val (.int (0 : Int32)), .val (.int (4 : Int32)), .val (.int (i1 &&& (65535 : Int32))), .val (.int (i2 &&& (65535 : Int32))), .val (.int (i3 &&& (65535 : Int32))), .val (.ref b80), .val (.ref b90_0), .val (.int (1 : Int32))] [(.int (0 : Int32))])) t → Steps p.tables e below (s₁.setTop (entryFrame m #[(.int i1), (.int i2), (.int i3), (.int i4), (.int i5)] maxLocals)) t := by
            intro t k
            refine pre94 _ ?_
            show Steps p.tables e below (T90.setTop (mkF m 181 #[.val (.int i1), .val (.int i2), .val (.int i3), .val (.int i4), .val (.int i5), .val (.int (2 : Int32)), .val (.int (0 : Int32)), .val (.int (4 : Int32)), .val (.int (i1 &&& (65535 : Int32))), .val (.int (i2 &&& (65535 : Int32))), .val (.int (i3 &&& (65535 : Int32))), .val (.ref b80), .val (.ref b90_0), .val (.int (1 : Int32))] [(.int (i1 &&& (65535 : Int32))), (.int (nar .char (((((nar .byte ((((i1 &&& (65535 : Int32)).toUInt32 >>> ((8 : Int32) &&& 31).toUInt32).toInt32).toInt8.toInt32)) &&& (255 : Int32)) <<< ((8 : Int32) &&& 31)) ||| ((nar .byte ((i1 &&& (65535 : Int32)).toInt8.toInt32)) &&& (255 : Int32))).toUInt32.toUInt16.toUInt32.toInt32)))])) _
            refine XS.icmpYes X90.here hx rfl (pc0 := 181) (pc' := 188) rfl (hb hby at_181) rfl (feq hc181_95).2 (by decide) (by decide) ?_
            show Steps p.tables e below (T90.setTop (mkF m 188 #[.val (.int i1), .val (.int i2), .val (.int i3), .val (.int i4), .val (.int i5), .val (.int (2 : Int32)), .val (.int (0 : Int32)), .val (.int (4 : Int32)), .val (.int (i1 &&& (65535 : Int32))), .val (.int (i2 &&& (65535 : Int32))), .val (.int (i3 &&& (65535 : Int32))), .val (.ref b80), .val (.ref b90_0), .val (.int (1 : Int32))] [])) _
            refine XS.iconst X90.here hx rfl (hb hby at_188) ?_
            exact k
          exact fun t k => pre97 t (by rw [show (own_j0_181_0 i1) = (0 : Int32) from (if_neg hc181_95)] at k; exact k)
      have pre99 : ∀ t, Steps p.tables e below (T90.setTop (mkF m 199 #[.val (.int i1), .val (.int i2), .val (.int i3), .val (.int i4), .val (.int i5), .val (.int (2 : Int32)), .val (.int (0 : Int32)), .val (.int (4 : Int32)), .val (.int (i1 &&& (65535 : Int32))), .val (.int (i2 &&& (65535 : Int32))), .val (.int (i3 &&& (65535 : Int32))), .val (.ref b80), .val (.ref b90_0), .val (.int (own_j0_181_0 i1))] [(.int (own_j0_181_0 i1))])) t → Steps p.tables e below (s₁.setTop (entryFrame m #[(.int i1), (.int i2), (.int i3), (.int i4), (.int i5)] maxLocals)) t := by
        intro t k
        refine pre98 _ ?_
        show Steps p.tables e below (T90.setTop (mkF m 189 #[.val (.int i1), .val (.int i2), .val (.int i3), .val (.int i4), .val (.int i5), .val (.int (2 : Int32)), .val (.int (0 : Int32)), .val (.int (4 : Int32)), .val (.int (i1 &&& (65535 : Int32))), .val (.int (i2 &&& (65535 : Int32))), .val (.int (i3 &&& (65535 : Int32))), .val (.ref b80), .val (.ref b90_0), .val (.int (1 : Int32))] [(.int (own_j0_181_0 i1))])) _
        refine XS.istore X90.here hx rfl (hb hby at_189) rfl (l' := #[.val (.int i1), .val (.int i2), .val (.int i3), .val (.int i4), .val (.int i5), .val (.int (2 : Int32)), .val (.int (0 : Int32)), .val (.int (4 : Int32)), .val (.int (i1 &&& (65535 : Int32))), .val (.int (i2 &&& (65535 : Int32))), .val (.int (i3 &&& (65535 : Int32))), .val (.ref b80), .val (.ref b90_0), .val (.int (own_j0_181_0 i1))]) rfl ?_
        show Steps p.tables e below (T90.setTop (mkF m 191 #[.val (.int i1), .val (.int i2), .val (.int i3), .val (.int i4), .val (.int i5), .val (.int (2 : Int32)), .val (.int (0 : Int32)), .val (.int (4 : Int32)), .val (.int (i1 &&& (65535 : Int32))), .val (.int (i2 &&& (65535 : Int32))), .val (.int (i3 &&& (65535 : Int32))), .val (.ref b80), .val (.ref b90_0), .val (.int (own_j0_181_0 i1))] [])) _
        refine XS.iload X90.here hx rfl (hb hby at_191) rfl ?_
        show Steps p.tables e below (T90.setTop (mkF m 193 #[.val (.int i1), .val (.int i2), .val (.int i3), .val (.int i4), .val (.int i5), .val (.int (2 : Int32)), .val (.int (0 : Int32)), .val (.int (4 : Int32)), .val (.int (i1 &&& (65535 : Int32))), .val (.int (i2 &&& (65535 : Int32))), .val (.int (i3 &&& (65535 : Int32))), .val (.ref b80), .val (.ref b90_0), .val (.int (own_j0_181_0 i1))] [(.int (2 : Int32))])) _
        refine XS.iconst X90.here hx rfl (hb hby at_193) ?_
        show Steps p.tables e below (T90.setTop (mkF m 194 #[.val (.int i1), .val (.int i2), .val (.int i3), .val (.int i4), .val (.int i5), .val (.int (2 : Int32)), .val (.int (0 : Int32)), .val (.int (4 : Int32)), .val (.int (i1 &&& (65535 : Int32))), .val (.int (i2 &&& (65535 : Int32))), .val (.int (i3 &&& (65535 : Int32))), .val (.ref b80), .val (.ref b90_0), .val (.int (own_j0_181_0 i1))] [(.int (1 : Int32)), (.int (2 : Int32))])) _
        refine XS.icmpNo X90.here hx rfl (hb hby at_194) rfl (tlt (by decide : (1 : Int32) < (2 : Int32))).2.2.2 ?_
        show Steps p.tables e below (T90.setTop (mkF m 197 #[.val (.int i1), .val (.int i2), .val (.int i3), .val (.int i4), .val (.int i5), .val (.int (2 : Int32)), .val (.int (0 : Int32)), .val (.int (4 : Int32)), .val (.int (i1 &&& (65535 : Int32))), .val (.int (i2 &&& (65535 : Int32))), .val (.int (i3 &&& (65535 : Int32))), .val (.ref b80), .val (.ref b90_0), .val (.int (own_j0_181_0 i1))] [])) _
        refine XS.iload X90.here hx rfl (hb hby at_197) rfl ?_
        exact k
      have pre107 : ∀ t, Steps p.tables e below (T90.setTop (mkF m 216 #[.val (.int i1), .val (.int i2), .val (.int i3), .val (.int i4), .val (.int i5), .val (.int (2 : Int32)), .val (.int (0 : Int32)), .val (.int (4 : Int32)), .val (.int (i1 &&& (65535 : Int32))), .val (.int (i2 &&& (65535 : Int32))), .val (.int (i3 &&& (65535 : Int32))), .val (.ref b80), .val (.ref b90_0), .val (.int (own_j0_181_0 i1))] [(.int (own_j0_199_0 i1 i2))])) t → Steps p.tables e below (s₁.setTop (entryFrame m #[(.int i1), (.int i2), (.int i3), (.int i4), (.int i5)] maxLocals)) t := by
        by_cases hc199_100 : (own_j0_181_0 i1) = (0 : Int32)
        · have pre101 : ∀ t, Steps p.tables e below (T90.setTop (mkF m 216 #[.val (.int i1), .val (.int i2), .val (.int i3), .val (.int i4), .val (.int i5), .val (.int (2 : Int32)), .val (.int (0 : Int32)), .val (.int (4 : Int32)), .val (.int (i1 &&& (65535 : Int32))), .val (.int (i2 &&& (65535 : Int32))), .val (.int (i3 &&& (65535 : Int32))), .val (.ref b80), .val (.ref b90_0), .val (.int (own_j0_181_0 i1))] [(.int (0 : Int32))])) t → Steps p.tables e below (s₁.setTop (entryFrame m #[(.int i1), (.int i2), (.int i3), (.int i4), (.int i5)] maxLocals)) t := by
            intro t k
            refine pre99 _ ?_
            show Steps p.tables e below (T90.setTop (mkF m 199 #[.val (.int i1), .val (.int i2), .val (.int i3), .val (.int i4), .val (.int i5), .val (.int (2 : Int32)), .val (.int (0 : Int32)), .val (.int (4 : Int32)), .val (.int (i1 &&& (65535 : Int32))), .val (.int (i2 &&& (65535 : Int32))), .val (.int (i3 &&& (65535 : Int32))), .val (.ref b80), .val (.ref b90_0), .val (.int (own_j0_181_0 i1))] [(.int (own_j0_181_0 i1))])) _
            refine XS.ifYes X90.here hx rfl (pc0 := 199) (pc' := 215) rfl (hb hby at_199) rfl ((if0 _ _).trans (teq hc199_100).1) (by decide) (by decide) ?_
            show Steps p.tables e below (T90.setTop (mkF m 215 #[.val (.int i1), .val (.int i2), .val (.int i3), .val (.int i4), .val (.int i5), .val (.int (2 : Int32)), .val (.int (0 : Int32)), .val (.int (4 : Int32)), .val (.int (i1 &&& (65535 : Int32))), .val (.int (i2 &&& (65535 : Int32))), .val (.int (i3 &&& (65535 : Int32))), .val (.ref b80), .val (.ref b90_0), .val (.int (own_j0_181_0 i1))] [])) _
            refine XS.iconst X90.here hx rfl (hb hby at_215) ?_
            exact k
          exact fun t k => pre101 t (by rw [show (own_j0_199_0 i1 i2) = (0 : Int32) from (if_pos hc199_100)] at k; exact k)
        · obtain ⟨cl102, Ar102, Cq102, Sz102, Nn102, Hh102, Gg102⟩ := id f90_0
          have hin102 : ¬ ((1 : Int32) < 0 ∨ cl102.slots.size ≤ ((1 : Int32)).toNatClampNeg) := inb_of Sz102 ⟨by decide, by decide⟩
          have hat102 : cl102.slots[((1 : Int32)).toNatClampNeg]? = some (.int (nar .char (((((nar .byte ((((i2 &&& (65535 : Int32)).toUInt32 >>> ((8 : Int32) &&& 31).toUInt32).toInt32).toInt8.toInt32)) &&& (255 : Int32)) <<< ((8 : Int32) &&& 31)) ||| ((nar .byte ((i2 &&& (65535 : Int32)).toInt8.toInt32)) &&& (255 : Int32))).toUInt32.toUInt16.toUInt32.toInt32))) := Hh102.at hin102 rfl
          have pre103 : ∀ t, Steps p.tables e below (T90.setTop (mkF m 208 #[.val (.int i1), .val (.int i2), .val (.int i3), .val (.int i4), .val (.int i5), .val (.int (2 : Int32)), .val (.int (0 : Int32)), .val (.int (4 : Int32)), .val (.int (i1 &&& (65535 : Int32))), .val (.int (i2 &&& (65535 : Int32))), .val (.int (i3 &&& (65535 : Int32))), .val (.ref b80), .val (.ref b90_0), .val (.int (own_j0_181_0 i1))] [(.int (i2 &&& (65535 : Int32))), (.int (nar .char (((((nar .byte ((((i2 &&& (65535 : Int32)).toUInt32 >>> ((8 : Int32) &&& 31).toUInt32).toInt32).toInt8.toInt32)) &&& (255 : Int32)) <<< ((8 : Int32) &&& 31)) ||| ((nar .byte ((i2 &&& (65535 : Int32)).toInt8.toInt32)) &&& (255 : Int32))).toUInt32.toUInt16.toUInt32.toInt32)))])) t → Steps p.tables e below (s₁.setTop (entryFrame m #[(.int i1), (.int i2), (.int i3), (.int i4), (.int i5)] maxLocals)) t := by
            intro t k
            refine pre99 _ ?_
            show Steps p.tables e below (T90.setTop (mkF m 199 #[.val (.int i1), .val (.int i2), .val (.int i3), .val (.int i4), .val (.int i5), .val (.int (2 : Int32)), .val (.int (0 : Int32)), .val (.int (4 : Int32)), .val (.int (i1 &&& (65535 : Int32))), .val (.int (i2 &&& (65535 : Int32))), .val (.int (i3 &&& (65535 : Int32))), .val (.ref b80), .val (.ref b90_0), .val (.int (own_j0_181_0 i1))] [(.int (own_j0_181_0 i1))])) _
            refine XS.ifNo X90.here hx rfl (hb hby at_199) rfl ((if0 _ _).trans (feq hc199_100).1) ?_
            show Steps p.tables e below (T90.setTop (mkF m 202 #[.val (.int i1), .val (.int i2), .val (.int i3), .val (.int i4), .val (.int i5), .val (.int (2 : Int32)), .val (.int (0 : Int32)), .val (.int (4 : Int32)), .val (.int (i1 &&& (65535 : Int32))), .val (.int (i2 &&& (65535 : Int32))), .val (.int (i3 &&& (65535 : Int32))), .val (.ref b80), .val (.ref b90_0), .val (.int (own_j0_181_0 i1))] [])) _
            refine XS.aload X90.here hx rfl (hb hby at_202) rfl rfl ?_
            show Steps p.tables e below (T90.setTop (mkF m 204 #[.val (.int i1), .val (.int i2), .val (.int i3), .val (.int i4), .val (.int i5), .val (.int (2 : Int32)), .val (.int (0 : Int32)), .val (.int (4 : Int32)), .val (.int (i1 &&& (65535 : Int32))), .val (.int (i2 &&& (65535 : Int32))), .val (.int (i3 &&& (65535 : Int32))), .val (.ref b80), .val (.ref b90_0), .val (.int (own_j0_181_0 i1))] [(.ref b90_0)])) _
            refine XS.iconst X90.here hx rfl (hb hby at_204) ?_
            show Steps p.tables e below (T90.setTop (mkF m 205 #[.val (.int i1), .val (.int i2), .val (.int i3), .val (.int i4), .val (.int i5), .val (.int (2 : Int32)), .val (.int (0 : Int32)), .val (.int (4 : Int32)), .val (.int (i1 &&& (65535 : Int32))), .val (.int (i2 &&& (65535 : Int32))), .val (.int (i3 &&& (65535 : Int32))), .val (.ref b80), .val (.ref b90_0), .val (.int (own_j0_181_0 i1))] [(.int (1 : Int32)), (.ref b90_0)])) _
            refine X90.caload hx (j := (1 : Int32)) (v := (.int (nar .char (((((nar .byte ((((i2 &&& (65535 : Int32)).toUInt32 >>> ((8 : Int32) &&& 31).toUInt32).toInt32).toInt8.toInt32)) &&& (255 : Int32)) <<< ((8 : Int32) &&& 31)) ||| ((nar .byte ((i2 &&& (65535 : Int32)).toInt8.toInt32)) &&& (255 : Int32))).toUInt32.toUInt16.toUInt32.toInt32)))) (by exact Ar102.1) (State.isArrayOf_alike hZ.alike Ar102.2.1) Ar102.2.2 hin102 hat102 (g := (mkF m 205 #[.val (.int i1), .val (.int i2), .val (.int i3), .val (.int i4), .val (.int i5), .val (.int (2 : Int32)), .val (.int (0 : Int32)), .val (.int (4 : Int32)), .val (.int (i1 &&& (65535 : Int32))), .val (.int (i2 &&& (65535 : Int32))), .val (.int (i3 &&& (65535 : Int32))), .val (.ref b80), .val (.ref b90_0), .val (.int (own_j0_181_0 i1))] [(.int (1 : Int32)), (.ref b90_0)])) rfl rfl (hb hby at_205) _ ?_
            show Steps p.tables e below (T90.setTop (mkF m 206 #[.val (.int i1), .val (.int i2), .val (.int i3), .val (.int i4), .val (.int i5), .val (.int (2 : Int32)), .val (.int (0 : Int32)), .val (.int (4 : Int32)), .val (.int (i1 &&& (65535 : Int32))), .val (.int (i2 &&& (65535 : Int32))), .val (.int (i3 &&& (65535 : Int32))), .val (.ref b80), .val (.ref b90_0), .val (.int (own_j0_181_0 i1))] [(.int (nar .char (((((nar .byte ((((i2 &&& (65535 : Int32)).toUInt32 >>> ((8 : Int32) &&& 31).toUInt32).toInt32).toInt8.toInt32)) &&& (255 : Int32)) <<< ((8 : Int32) &&& 31)) ||| ((nar .byte ((i2 &&& (65535 : Int32)).toInt8.toInt32)) &&& (255 : Int32))).toUInt32.toUInt16.toUInt32.toInt32)))])) _
            refine XS.iload X90.here hx rfl (hb hby at_206) rfl ?_
            exact k
          by_cases hc208_104 : (nar .char (((((nar .byte ((((i2 &&& (65535 : Int32)).toUInt32 >>> ((8 : Int32) &&& 31).toUInt32).toInt32).toInt8.toInt32)) &&& (255 : Int32)) <<< ((8 : Int32) &&& 31)) ||| ((nar .byte ((i2 &&& (65535 : Int32)).toInt8.toInt32)) &&& (255 : Int32))).toUInt32.toUInt16.toUInt32.toInt32)) = (i2 &&& (65535 : Int32))
          · have pre105 : ∀ t, Steps p.tables e below (T90.setTop (mkF m 216 #[.val (.int i1), .val (.int i2), .val (.int i3), .val (.int i4), .val (.int i5), .val (.int (2 : Int32)), .val (.int (0 : Int32)), .val (.int (4 : Int32)), .val (.int (i1 &&& (65535 : Int32))), .val (.int (i2 &&& (65535 : Int32))), .val (.int (i3 &&& (65535 : Int32))), .val (.ref b80), .val (.ref b90_0), .val (.int (own_j0_181_0 i1))] [(.int (1 : Int32))])) t → Steps p.tables e below (s₁.setTop (entryFrame m #[(.int i1), (.int i2), (.int i3), (.int i4), (.int i5)] maxLocals)) t := by
              intro t k
              refine pre103 _ ?_
              show Steps p.tables e below (T90.setTop (mkF m 208 #[.val (.int i1), .val (.int i2), .val (.int i3), .val (.int i4), .val (.int i5), .val (.int (2 : Int32)), .val (.int (0 : Int32)), .val (.int (4 : Int32)), .val (.int (i1 &&& (65535 : Int32))), .val (.int (i2 &&& (65535 : Int32))), .val (.int (i3 &&& (65535 : Int32))), .val (.ref b80), .val (.ref b90_0), .val (.int (own_j0_181_0 i1))] [(.int (i2 &&& (65535 : Int32))), (.int (nar .char (((((nar .byte ((((i2 &&& (65535 : Int32)).toUInt32 >>> ((8 : Int32) &&& 31).toUInt32).toInt32).toInt8.toInt32)) &&& (255 : Int32)) <<< ((8 : Int32) &&& 31)) ||| ((nar .byte ((i2 &&& (65535 : Int32)).toInt8.toInt32)) &&& (255 : Int32))).toUInt32.toUInt16.toUInt32.toInt32)))])) _
              refine XS.icmpNo X90.here hx rfl (hb hby at_208) rfl (teq hc208_104).2 ?_
              show Steps p.tables e below (T90.setTop (mkF m 211 #[.val (.int i1), .val (.int i2), .val (.int i3), .val (.int i4), .val (.int i5), .val (.int (2 : Int32)), .val (.int (0 : Int32)), .val (.int (4 : Int32)), .val (.int (i1 &&& (65535 : Int32))), .val (.int (i2 &&& (65535 : Int32))), .val (.int (i3 &&& (65535 : Int32))), .val (.ref b80), .val (.ref b90_0), .val (.int (own_j0_181_0 i1))] [])) _
              refine XS.iconst X90.here hx rfl (hb hby at_211) ?_
              show Steps p.tables e below (T90.setTop (mkF m 212 #[.val (.int i1), .val (.int i2), .val (.int i3), .val (.int i4), .val (.int i5), .val (.int (2 : Int32)), .val (.int (0 : Int32)), .val (.int (4 : Int32)), .val (.int (i1 &&& (65535 : Int32))), .val (.int (i2 &&& (65535 : Int32))), .val (.int (i3 &&& (65535 : Int32))), .val (.ref b80), .val (.ref b90_0), .val (.int (own_j0_181_0 i1))] [(.int (1 : Int32))])) _
              refine XS.goto X90.here hx rfl (pc0 := 212) (pc' := 216) rfl (hb hby at_212) (by decide) (by decide) ?_
              exact k
            exact fun t k => pre105 t (by rw [show (own_j0_199_0 i1 i2) = (1 : Int32) from ((if_neg hc199_100).trans (if_pos hc208_104))] at k; exact k)
          · have pre106 : ∀ t, Steps p.tables e below (T90.setTop (mkF m 216 #[.val (.int i1), .val (.int i2), .val (.int i3), .val (.int i4), .val (.int i5), .val (.int (2 : Int32)), .val (.int (0 : Int32)), .val (.int (4 : Int32)), .val (.int (i1 &&& (65535 : Int32))), .val (.int (i2 &&& (65535 : Int32))), .val (.int (i3 &&& (65535 : Int32))), .val (.ref b80), .val (.ref b90_0), .val (.int (own_j0_181_0 i1))] [(.int (0 : Int32))])) t → Steps p.tables e below (s₁.setTop (entryFrame m #[(.int i1), (.int i2), (.int i3), (.int i4), (.int i5)] maxLocals)) t := by
              intro t k
              refine pre103 _ ?_
              show Steps p.tables e below (T90.setTop (mkF m 208 #[.val (.int i1), .val (.int i2), .val (.int i3), .val (.int i4), .val (.int i5), .val (.int (2 : Int32)), .val (.int (0 : Int32)), .val (.int (4 : Int32)), .val (.int (i1 &&& (65535 : Int32))), .val (.int (i2 &&& (65535 : Int32))), .val (.int (i3 &&& (65535 : Int32))), .val (.ref b80), .val (.ref b90_0), .val (.int (own_j0_181_0 i1))] [(.int (i2 &&& (65535 : Int32))), (.int (nar .char (((((nar .byte ((((i2 &&& (65535 : Int32)).toUInt32 >>> ((8 : Int32) &&& 31).toUInt32).toInt32).toInt8.toInt32)) &&& (255 : Int32)) <<< ((8 : Int32) &&& 31)) ||| ((nar .byte ((i2 &&& (65535 : Int32)).toInt8.toInt32)) &&& (255 : Int32))).toUInt32.toUInt16.toUInt32.toInt32)))])) _
              refine XS.icmpYes X90.here hx rfl (pc0 := 208) (pc' := 215) rfl (hb hby at_208) rfl (feq hc208_104).2 (by decide) (by decide) ?_
              show Steps p.tables e below (T90.setTop (mkF m 215 #[.val (.int i1), .val (.int i2), .val (.int i3), .val (.int i4), .val (.int i5), .val (.int (2 : Int32)), .val (.int (0 : Int32)), .val (.int (4 : Int32)), .val (.int (i1 &&& (65535 : Int32))), .val (.int (i2 &&& (65535 : Int32))), .val (.int (i3 &&& (65535 : Int32))), .val (.ref b80), .val (.ref b90_0), .val (.int (own_j0_181_0 i1))] [])) _
              refine XS.iconst X90.here hx rfl (hb hby at_215) ?_
              exact k
            exact fun t k => pre106 t (by rw [show (own_j0_199_0 i1 i2) = (0 : Int32) from ((if_neg hc199_100).trans (if_neg hc208_104))] at k; exact k)
      have pre108 : ∀ t, Steps p.tables e below (T90.setTop (mkF m 247 #[.val (.int i1), .val (.int i2), .val (.int i3), .val (.int i4), .val (.int i5), .val (.int (2 : Int32)), .val (.int (0 : Int32)), .val (.int (4 : Int32)), .val (.int (i1 &&& (65535 : Int32))), .val (.int (i2 &&& (65535 : Int32))), .val (.int (i3 &&& (65535 : Int32))), .val (.ref b80), .val (.ref b90_0), .val (.int (own_j0_199_0 i1 i2))] [(.int (own_j0_199_0 i1 i2))])) t → Steps p.tables e below (s₁.setTop (entryFrame m #[(.int i1), (.int i2), (.int i3), (.int i4), (.int i5)] maxLocals)) t := by
        intro t k
        refine pre107 _ ?_
        show Steps p.tables e below (T90.setTop (mkF m 216 #[.val (.int i1), .val (.int i2), .val (.int i3), .val (.int i4), .val (.int i5), .val (.int (2 : Int32)), .val (.int (0 : Int32)), .val (.int (4 : Int32)), .val (.int (i1 &&& (65535 : Int32))), .val (.int (i2 &&& (65535 : Int32))), .val (.int (i3 &&& (65535 : Int32))), .val (.ref b80), .val (.ref b90_0), .val (.int (own_j0_181_0 i1))] [(.int (own_j0_199_0 i1 i2))])) _
        refine XS.istore X90.here hx rfl (hb hby at_216) rfl (l' := #[.val (.int i1), .val (.int i2), .val (.int i3), .val (.int i4), .val (.int i5), .val (.int (2 : Int32)), .val (.int (0 : Int32)), .val (.int (4 : Int32)), .val (.int (i1 &&& (65535 : Int32))), .val (.int (i2 &&& (65535 : Int32))), .val (.int (i3 &&& (65535 : Int32))), .val (.ref b80), .val (.ref b90_0), .val (.int (own_j0_199_0 i1 i2))]) rfl ?_
        show Steps p.tables e below (T90.setTop (mkF m 218 #[.val (.int i1), .val (.int i2), .val (.int i3), .val (.int i4), .val (.int i5), .val (.int (2 : Int32)), .val (.int (0 : Int32)), .val (.int (4 : Int32)), .val (.int (i1 &&& (65535 : Int32))), .val (.int (i2 &&& (65535 : Int32))), .val (.int (i3 &&& (65535 : Int32))), .val (.ref b80), .val (.ref b90_0), .val (.int (own_j0_199_0 i1 i2))] [])) _
        refine XS.iload X90.here hx rfl (hb hby at_218) rfl ?_
        show Steps p.tables e below (T90.setTop (mkF m 220 #[.val (.int i1), .val (.int i2), .val (.int i3), .val (.int i4), .val (.int i5), .val (.int (2 : Int32)), .val (.int (0 : Int32)), .val (.int (4 : Int32)), .val (.int (i1 &&& (65535 : Int32))), .val (.int (i2 &&& (65535 : Int32))), .val (.int (i3 &&& (65535 : Int32))), .val (.ref b80), .val (.ref b90_0), .val (.int (own_j0_199_0 i1 i2))] [(.int (2 : Int32))])) _
        refine XS.iconst X90.here hx rfl (hb hby at_220) ?_
        show Steps p.tables e below (T90.setTop (mkF m 221 #[.val (.int i1), .val (.int i2), .val (.int i3), .val (.int i4), .val (.int i5), .val (.int (2 : Int32)), .val (.int (0 : Int32)), .val (.int (4 : Int32)), .val (.int (i1 &&& (65535 : Int32))), .val (.int (i2 &&& (65535 : Int32))), .val (.int (i3 &&& (65535 : Int32))), .val (.ref b80), .val (.ref b90_0), .val (.int (own_j0_199_0 i1 i2))] [(.int (2 : Int32)), (.int (2 : Int32))])) _
        refine XS.icmpYes X90.here hx rfl (pc0 := 221) (pc' := 245) rfl (hb hby at_221) rfl (flt (by decide : ¬ ((2 : Int32) < (2 : Int32)))).2.2.2 (by decide) (by decide) ?_
        show Steps p.tables e below (T90.setTop (mkF m 245 #[.val (.int i1), .val (.int i2), .val (.int i3), .val (.int i4), .val (.int i5), .val (.int (2 : Int32)), .val (.int (0 : Int32)), .val (.int (4 : Int32)), .val (.int (i1 &&& (65535 : Int32))), .val (.int (i2 &&& (65535 : Int32))), .val (.int (i3 &&& (65535 : Int32))), .val (.ref b80), .val (.ref b90_0), .val (.int (own_j0_199_0 i1 i2))] [])) _
        refine XS.iload X90.here hx rfl (hb hby at_245) rfl ?_
        exact k
      obtain ⟨fs, hr, hrun, hended, hW, hsame⟩ := X90.leave (v := some (.int (nar .boolean (own_j0_199_0 i1 i2)))) (fun h => by rw [Bd.returns] at h; cases h)
      refine ⟨_, _, pre108 _ ?_, hrun, hended, _, _, rfl, ?_, ⟨_, rfl⟩, hW, hsame.mono (by decide) (by decide)⟩
      · show Steps p.tables e below (T90.setTop (mkF m 247 #[.val (.int i1), .val (.int i2), .val (.int i3), .val (.int i4), .val (.int i5), .val (.int (2 : Int32)), .val (.int (0 : Int32)), .val (.int (4 : Int32)), .val (.int (i1 &&& (65535 : Int32))), .val (.int (i2 &&& (65535 : Int32))), .val (.int (i3 &&& (65535 : Int32))), .val (.ref b80), .val (.ref b90_0), .val (.int (own_j0_199_0 i1 i2))] [(.int (own_j0_199_0 i1 i2))])) _
        exact retN X90 hx (t := .boolean) Bd.returns (by simp) (hb hby at_247) hr
      · show Q0 Z i1 i2 i3 i4 i5 h0 n0 _ T90.heap _
        exact ⟨congrArg (fun z => some (Value.int z)) (show (own_r0 i1 i2 i3 i5) = (nar .boolean (own_j0_199_0 i1 i2)) from ((if_neg (by rw [hk2]; decide)).trans ((if_neg (by rw [hk2]; decide)).trans ((if_pos hk2).trans (if_pos hk78))))).symm, N90⟩
    · have pre109 : ∀ t, Steps p.tables e below (s₁.setTop (mkF m 22 #[.val (.int i1), .val (.int i2), .val (.int i3), .val (.int i4), .val (.int i5), .val (.int (2 : Int32)), .val (.int (1 : Int32)), .unset, .unset, .unset, .unset, .unset, .unset, .unset] [])) t → Steps p.tables e below (s₁.setTop (entryFrame m #[(.int i1), (.int i2), (.int i3), (.int i4), (.int i5)] maxLocals)) t := fun t k => pre77 t (by rw [hk78]; exact k)
      obtain ⟨T110, h110, k110, X110, e110, E110, A110, st110⟩ := newP X0 hx hZ (hw _ (List.mem_of_getElem? (i := 1) rfl)) e0 (g := (mkF m 59 #[.val (.int i1), .val (.int i2), .val (.int i3), .val (.int i4), .val (.int i5), .val (.int (2 : Int32)), .val (.int (1 : Int32)), .val (.int (5 : Int32)), .val (.int (i1 &&& (65535 : Int32))), .val (.int (i2 &&& (65535 : Int32))), .val (.int (i3 &&& (65535 : Int32))), .unset, .unset, .unset] [(.int (5 : Int32))])) rfl (hb hby at_59) rfl (by decide) (cap := 5) (by decide) (by decide) (by decide) (by decide)
      obtain ⟨b110, g110⟩ : ∃ z, z = h0.size := ⟨_, rfl⟩
      rw [← g110] at A110 st110
      have sz_b110 : h0.size ≤ b110 := Nat.le_trans (Keep.refl h0 []).1 (Nat.le_of_eq g110.symm)
      have K111 : Keep h0 h110 [] := (Keep.refl h0 []).ext E110
      have V110 : Arv Z h110 b110 k110 .byte (5 : Int32) [(.int (0 : Int32)), (.int (0 : Int32)), (.int (0 : Int32)), (.int (0 : Int32)), (.int (0 : Int32))] (.int (0 : Int32)) := (Arv.new A110 (by decide)).pad (pad_rep [] (.int (0 : Int32)) 5)
      obtain ⟨cl112, Ar112, Cq112, Sz112, Nn112, Hh112, Gg112⟩ := id V110
      have hin112 : ¬ ((0 : Int32) < 0 ∨ cl112.slots.size ≤ ((0 : Int32)).toNatClampNeg) := inb_of Sz112 ⟨by decide, by decide⟩
      obtain ⟨T112, h112, X112, e112, W112, st112⟩ := stB X110 hx hZ e110 Ar112 (j := (0 : Int32)) hin112 (g := (mkF m 77 #[.val (.int i1), .val (.int i2), .val (.int i3), .val (.int i4), .val (.int i5), .val (.int (2 : Int32)), .val (.int (1 : Int32)), .val (.int (5 : Int32)), .val (.int (i1 &&& (65535 : Int32))), .val (.int (i2 &&& (65535 : Int32))), .val (.int (i3 &&& (65535 : Int32))), .val (.ref b110), .unset, .unset] [(.int ((((i1 &&& (65535 : Int32)).toUInt32 >>> ((8 : Int32) &&& 31).toUInt32).toInt32).toInt8.toInt32)), (.int (0 : Int32)), (.ref b110)])) rfl rfl (hb hby at_77)
      have V112 : Arv Z h112 b110 k110 .byte (5 : Int32) [(.int (nar .byte ((((i1 &&& (65535 : Int32)).toUInt32 >>> ((8 : Int32) &&& 31).toUInt32).toInt32).toInt8.toInt32))), (.int (0 : Int32)), (.int (0 : Int32)), (.int (0 : Int32)), (.int (0 : Int32))] (.int (0 : Int32)) := Arv.set Ar112 Cq112 Sz112 Nn112 Hh112 Gg112 (fits_nar_byte _) W112 0 rfl (Nat.le_of_ble_eq_true rfl)
      have N112 := Fr.snoc X112 N0 (Nat.le_trans Z0 sz_b110)
      have K113 : Keep h0 h112 [] := K111.wr W112 (Or.inr sz_b110)
      obtain ⟨cl114, Ar114, Cq114, Sz114, Nn114, Hh114, Gg114⟩ := id V112
      have hin114 : ¬ ((1 : Int32) < 0 ∨ cl114.slots.size ≤ ((1 : Int32)).toNatClampNeg) := inb_of Sz114 ⟨by decide, by decide⟩
      obtain ⟨T114, h114, X114, e114, W114, st114⟩ := stB X112 hx hZ e112 Ar114 (j := (1 : Int32)) hin114 (g := (mkF m 84 #[.val (.int i1), .val (.int i2), .val (.int i3), .val (.int i4), .val (.int i5), .val (.int (2 : Int32)), .val (.int (1 : Int32)), .val (.int (5 : Int32)), .val (.int (i1 &&& (65535 : Int32))), .val (.int (i2 &&& (65535 : Int32))), .val (.int (i3 &&& (65535 : Int32))), .val (.ref b110), .unset, .unset] [(.int ((i1 &&& (65535 : Int32)).toInt8.toInt32)), (.int (1 : Int32)), (.ref b110)])) rfl rfl (hb hby at_84)
      have V114 : Arv Z h114 b110 k110 .byte (5 : Int32) [(.int (nar .byte ((((i1 &&& (65535 : Int32)).toUInt32 >>> ((8 : Int32) &&& 31).toUInt32).toInt32).toInt8.toInt32))), (.int (nar .byte ((i1 &&& (65535 : Int32)).toInt8.toInt32))), (.int (0 : Int32)), (.int (0 : Int32)), (.int (0 : Int32))] (.int (0 : Int32)) := Arv.set Ar114 Cq114 Sz114 Nn114 Hh114 Gg114 (fits_nar_byte _) W114 1 rfl (Nat.le_of_ble_eq_true rfl)
      have N114 := Fr.snoc X114 N112 (Nat.le_trans Z0 sz_b110)
      have K115 : Keep h0 h114 [] := K113.wr W114 (Or.inr sz_b110)
      obtain ⟨cl116, Ar116, Cq116, Sz116, Nn116, Hh116, Gg116⟩ := id V114
      have hin116 : ¬ ((2 : Int32) < 0 ∨ cl116.slots.size ≤ ((2 : Int32)).toNatClampNeg) := inb_of Sz116 ⟨by decide, by decide⟩
      obtain ⟨T116, h116, X116, e116, W116, st116⟩ := stB X114 hx hZ e114 Ar116 (j := (2 : Int32)) hin116 (g := (mkF m 100 #[.val (.int i1), .val (.int i2), .val (.int i3), .val (.int i4), .val (.int i5), .val (.int (2 : Int32)), .val (.int (1 : Int32)), .val (.int (5 : Int32)), .val (.int (i1 &&& (65535 : Int32))), .val (.int (i2 &&& (65535 : Int32))), .val (.int (i3 &&& (65535 : Int32))), .val (.ref b110), .unset, .unset] [(.int ((((i2 &&& (65535 : Int32)).toUInt32 >>> ((8 : Int32) &&& 31).toUInt32).toInt32).toInt8.toInt32)), (.int (2 : Int32)), (.ref b110)])) rfl rfl (hb hby at_100)
      have V116 : Arv Z h116 b110 k110 .byte (5 : Int32) [(.int (nar .byte ((((i1 &&& (65535 : Int32)).toUInt32 >>> ((8 : Int32) &&& 31).toUInt32).toInt32).toInt8.toInt32))), (.int (nar .byte ((i1 &&& (65535 : Int32)).toInt8.toInt32))), (.int (nar .byte ((((i2 &&& (65535 : Int32)).toUInt32 >>> ((8 : Int32) &&& 31).toUInt32).toInt32).toInt8.toInt32))), (.int (0 : Int32)), (.int (0 : Int32))] (.int (0 : Int32)) := Arv.set Ar116 Cq116 Sz116 Nn116 Hh116 Gg116 (fits_nar_byte _) W116 2 rfl (Nat.le_of_ble_eq_true rfl)
      have N116 := Fr.snoc X116 N114 (Nat.le_trans Z0 sz_b110)
      have K117 : Keep h0 h116 [] := K115.wr W116 (Or.inr sz_b110)
      obtain ⟨cl118, Ar118, Cq118, Sz118, Nn118, Hh118, Gg118⟩ := id V116
      have hin118 : ¬ ((3 : Int32) < 0 ∨ cl118.slots.size ≤ ((3 : Int32)).toNatClampNeg) := inb_of Sz118 ⟨by decide, by decide⟩
      obtain ⟨T118, h118, X118, e118, W118, st118⟩ := stB X116 hx hZ e116 Ar118 (j := (3 : Int32)) hin118 (g := (mkF m 107 #[.val (.int i1), .val (.int i2), .val (.int i3), .val (.int i4), .val (.int i5), .val (.int (2 : Int32)), .val (.int (1 : Int32)), .val (.int (5 : Int32)), .val (.int (i1 &&& (65535 : Int32))), .val (.int (i2 &&& (65535 : Int32))), .val (.int (i3 &&& (65535 : Int32))), .val (.ref b110), .unset, .unset] [(.int ((i2 &&& (65535 : Int32)).toInt8.toInt32)), (.int (3 : Int32)), (.ref b110)])) rfl rfl (hb hby at_107)
      have V118 : Arv Z h118 b110 k110 .byte (5 : Int32) [(.int (nar .byte ((((i1 &&& (65535 : Int32)).toUInt32 >>> ((8 : Int32) &&& 31).toUInt32).toInt32).toInt8.toInt32))), (.int (nar .byte ((i1 &&& (65535 : Int32)).toInt8.toInt32))), (.int (nar .byte ((((i2 &&& (65535 : Int32)).toUInt32 >>> ((8 : Int32) &&& 31).toUInt32).toInt32).toInt8.toInt32))), (.int (nar .byte ((i2 &&& (65535 : Int32)).toInt8.toInt32))), (.int (0 : Int32))] (.int (0 : Int32)) := Arv.set Ar118 Cq118 Sz118 Nn118 Hh118 Gg118 (fits_nar_byte _) W118 3 rfl (Nat.le_of_ble_eq_true rfl)
      have N118 := Fr.snoc X118 N116 (Nat.le_trans Z0 sz_b110)
      have K119 : Keep h0 h118 [] := K117.wr W118 (Or.inr sz_b110)
      obtain ⟨cl120, Ar120, Cq120, Sz120, Nn120, Hh120, Gg120⟩ := id V118
      have hin120 : ¬ ((4 : Int32) < 0 ∨ cl120.slots.size ≤ ((4 : Int32)).toNatClampNeg) := inb_of Sz120 ⟨by decide, by decide⟩
      obtain ⟨T120, h120, X120, e120, W120, st120⟩ := stB X118 hx hZ e118 Ar120 (j := (4 : Int32)) hin120 (g := (mkF m 144 #[.val (.int i1), .val (.int i2), .val (.int i3), .val (.int i4), .val (.int i5), .val (.int (2 : Int32)), .val (.int (1 : Int32)), .val (.int (5 : Int32)), .val (.int (i1 &&& (65535 : Int32))), .val (.int (i2 &&& (65535 : Int32))), .val (.int (i3 &&& (65535 : Int32))), .val (.ref b110), .unset, .unset] [(.int (i4.toInt8.toInt32)), (.int (4 : Int32)), (.ref b110)])) rfl rfl (hb hby at_144)
      have V120 : Arv Z h120 b110 k110 .byte (5 : Int32) [(.int (nar .byte ((((i1 &&& (65535 : Int32)).toUInt32 >>> ((8 : Int32) &&& 31).toUInt32).toInt32).toInt8.toInt32))), (.int (nar .byte ((i1 &&& (65535 : Int32)).toInt8.toInt32))), (.int (nar .byte ((((i2 &&& (65535 : Int32)).toUInt32 >>> ((8 : Int32) &&& 31).toUInt32).toInt32).toInt8.toInt32))), (.int (nar .byte ((i2 &&& (65535 : Int32)).toInt8.toInt32))), (.int (nar .byte (i4.toInt8.toInt32)))] (.int (0 : Int32)) := Arv.set Ar120 Cq120 Sz120 Nn120 Hh120 Gg120 (fits_nar_byte _) W120 4 rfl (Nat.le_of_ble_eq_true rfl)
      have N120 := Fr.snoc X120 N118 (Nat.le_trans Z0 sz_b110)
      have K121 : Keep h0 h120 [] := K119.wr W120 (Or.inr sz_b110)
      obtain ⟨_, _, ⟨T122, L122, k122, n122⟩, -, X122, ⟨Lc122, hQ122, l122, y122, z122⟩, st122⟩ := Jvm.LawKit.callS X120 hx (y := (⟨"com/example/aschenputtel/aschenputtel/values/UcaWeights", "keyCharacters", "([B)[C"⟩ : MethodName)) hown (mvT hZ (hw _ (List.mem_of_getElem? (i := 2) rfl))) (mvT hZ (hw _ (List.mem_of_getElem? (i := 3) rfl))) (mvT hZ (hw _ (List.mem_of_getElem? (i := 4) rfl))) (mvT hZ (hw _ (List.mem_of_getElem? (i := 5) rfl))) (by decide) (backOf (W := 0) (rm1e l Z a0 hw [] b110 (nar .byte ((((i1 &&& (65535 : Int32)).toUInt32 >>> ((8 : Int32) &&& 31).toUInt32).toInt32).toInt8.toInt32)) (nar .byte ((i1 &&& (65535 : Int32)).toInt8.toInt32)) (nar .byte ((((i2 &&& (65535 : Int32)).toUInt32 >>> ((8 : Int32) &&& 31).toUInt32).toInt32).toInt8.toInt32)) (nar .byte ((i2 &&& (65535 : Int32)).toInt8.toInt32)) (nar .byte (i4.toInt8.toInt32)) k110 h120 n0 (Nat.le_trans Z0 K121.1) V120) hZ (hw _ (List.mem_of_getElem? (i := 5) rfl)) (hw _ (List.mem_of_getElem? (i := 4) rfl)) (by decide) (by decide)) (g := (mkF m 147 #[.val (.int i1), .val (.int i2), .val (.int i3), .val (.int i4), .val (.int i5), .val (.int (2 : Int32)), .val (.int (1 : Int32)), .val (.int (5 : Int32)), .val (.int (i1 &&& (65535 : Int32))), .val (.int (i2 &&& (65535 : Int32))), .val (.int (i3 &&& (65535 : Int32))), .val (.ref b110), .unset, .unset] [(.ref b110)])) rfl (by rw [hml]; rfl) (argsL := [(.ref b110)]) (rest := []) (lenOf pd_0 rfl) rfl (by show 2 * 0 + _ ≤ _; exact Nat.le_of_eq rfl) (hb hby at_147) (fun _ _ => ⟨rfl, e120, (by decide : 1 + 1 ≤ _), (by decide : 5 + 2 ≤ _)⟩)
      dsimp only [Pt.U, Pt.locs, Pt.cells, Pt.slots] at X122 l122 y122 z122 st122 hQ122
      subst l122 y122 z122
      obtain ⟨b122_0, k122_1, rfl, Nq122, Kq122, sq122_0, f122_0⟩ := hQ122
      have sz_b122_0 : h0.size ≤ b122_0 := Nat.le_trans K121.1 sq122_0
      have K123 : Keep h0 T122.heap [] := K121.trans Kq122 all0
      have N122 := Fr.app N120 Nq122
      obtain ⟨cl124, Ar124, -, Sz124, Nn124, -, -⟩ := id f122_0
      obtain ⟨cl125, Ar125, Cq125, Sz125, Nn125, Hh125, Gg125⟩ := id f122_0
      have hin125 : ¬ ((0 : Int32) < 0 ∨ cl125.slots.size ≤ ((0 : Int32)).toNatClampNeg) := inb_of Sz125 ⟨by decide, by decide⟩
      have hat125 : cl125.slots[((0 : Int32)).toNatClampNeg]? = some (.int (nar .char (((((nar .byte ((((i1 &&& (65535 : Int32)).toUInt32 >>> ((8 : Int32) &&& 31).toUInt32).toInt32).toInt8.toInt32)) &&& (255 : Int32)) <<< ((8 : Int32) &&& 31)) ||| ((nar .byte ((i1 &&& (65535 : Int32)).toInt8.toInt32)) &&& (255 : Int32))).toUInt32.toUInt16.toUInt32.toInt32))) := Hh125.at hin125 rfl
      have pre126 : ∀ t, Steps p.tables e below (T122.setTop (mkF m 181 #[.val (.int i1), .val (.int i2), .val (.int i3), .val (.int i4), .val (.int i5), .val (.int (2 : Int32)), .val (.int (1 : Int32)), .val (.int (5 : Int32)), .val (.int (i1 &&& (65535 : Int32))), .val (.int (i2 &&& (65535 : Int32))), .val (.int (i3 &&& (65535 : Int32))), .val (.ref b110), .val (.ref b122_0), .val (.int (1 : Int32))] [(.int (i1 &&& (65535 : Int32))), (.int (nar .char (((((nar .byte ((((i1 &&& (65535 : Int32)).toUInt32 >>> ((8 : Int32) &&& 31).toUInt32).toInt32).toInt8.toInt32)) &&& (255 : Int32)) <<< ((8 : Int32) &&& 31)) ||| ((nar .byte ((i1 &&& (65535 : Int32)).toInt8.toInt32)) &&& (255 : Int32))).toUInt32.toUInt16.toUInt32.toInt32)))])) t → Steps p.tables e below (s₁.setTop (entryFrame m #[(.int i1), (.int i2), (.int i3), (.int i4), (.int i5)] maxLocals)) t := by
        intro t k
        refine pre109 _ ?_
        show Steps p.tables e below (s₁.setTop (mkF m 22 #[.val (.int i1), .val (.int i2), .val (.int i3), .val (.int i4), .val (.int i5), .val (.int (2 : Int32)), .val (.int (1 : Int32)), .unset, .unset, .unset, .unset, .unset, .unset, .unset] [])) _
        refine XS.iconst X0.here hx rfl (hb hby at_22) ?_
        show Steps p.tables e below (s₁.setTop (mkF m 23 #[.val (.int i1), .val (.int i2), .val (.int i3), .val (.int i4), .val (.int i5), .val (.int (2 : Int32)), .val (.int (1 : Int32)), .unset, .unset, .unset, .unset, .unset, .unset, .unset] [(.int (2 : Int32))])) _
        refine XS.iload X0.here hx rfl (hb hby at_23) rfl ?_
        show Steps p.tables e below (s₁.setTop (mkF m 25 #[.val (.int i1), .val (.int i2), .val (.int i3), .val (.int i4), .val (.int i5), .val (.int (2 : Int32)), .val (.int (1 : Int32)), .unset, .unset, .unset, .unset, .unset, .unset, .unset] [(.int (2 : Int32)), (.int (2 : Int32))])) _
        refine XS.imul X0.here hx rfl (hb hby at_25) rfl ?_
        show Steps p.tables e below (s₁.setTop (mkF m 26 #[.val (.int i1), .val (.int i2), .val (.int i3), .val (.int i4), .val (.int i5), .val (.int (2 : Int32)), .val (.int (1 : Int32)), .unset, .unset, .unset, .unset, .unset, .unset, .unset] [(.int (4 : Int32))])) _
        refine XS.iload X0.here hx rfl (hb hby at_26) rfl ?_
        show Steps p.tables e below (s₁.setTop (mkF m 28 #[.val (.int i1), .val (.int i2), .val (.int i3), .val (.int i4), .val (.int i5), .val (.int (2 : Int32)), .val (.int (1 : Int32)), .unset, .unset, .unset, .unset, .unset, .unset, .unset] [(.int (1 : Int32)), (.int (4 : Int32))])) _
        refine XS.ifNo X0.here hx rfl (hb hby at_28) rfl ((if0 _ _).trans (feq (by decide : ¬ ((1 : Int32) = (0 : Int32)))).1) ?_
        show Steps p.tables e below (s₁.setTop (mkF m 31 #[.val (.int i1), .val (.int i2), .val (.int i3), .val (.int i4), .val (.int i5), .val (.int (2 : Int32)), .val (.int (1 : Int32)), .unset, .unset, .unset, .unset, .unset, .unset, .unset] [(.int (4 : Int32))])) _
        refine XS.iconst X0.here hx rfl (hb hby at_31) ?_
        show Steps p.tables e below (s₁.setTop (mkF m 32 #[.val (.int i1), .val (.int i2), .val (.int i3), .val (.int i4), .val (.int i5), .val (.int (2 : Int32)), .val (.int (1 : Int32)), .unset, .unset, .unset, .unset, .unset, .unset, .unset] [(.int (1 : Int32)), (.int (4 : Int32))])) _
        refine XS.goto X0.here hx rfl (pc0 := 32) (pc' := 36) rfl (hb hby at_32) (by decide) (by decide) ?_
        show Steps p.tables e below (s₁.setTop (mkF m 36 #[.val (.int i1), .val (.int i2), .val (.int i3), .val (.int i4), .val (.int i5), .val (.int (2 : Int32)), .val (.int (1 : Int32)), .unset, .unset, .unset, .unset, .unset, .unset, .unset] [(.int (1 : Int32)), (.int (4 : Int32))])) _
        refine XS.iadd X0.here hx rfl (hb hby at_36) rfl ?_
        show Steps p.tables e below (s₁.setTop (mkF m 37 #[.val (.int i1), .val (.int i2), .val (.int i3), .val (.int i4), .val (.int i5), .val (.int (2 : Int32)), .val (.int (1 : Int32)), .unset, .unset, .unset, .unset, .unset, .unset, .unset] [(.int (5 : Int32))])) _
        refine XS.istore X0.here hx rfl (hb hby at_37) rfl (l' := #[.val (.int i1), .val (.int i2), .val (.int i3), .val (.int i4), .val (.int i5), .val (.int (2 : Int32)), .val (.int (1 : Int32)), .val (.int (5 : Int32)), .unset, .unset, .unset, .unset, .unset, .unset]) rfl ?_
        show Steps p.tables e below (s₁.setTop (mkF m 39 #[.val (.int i1), .val (.int i2), .val (.int i3), .val (.int i4), .val (.int i5), .val (.int (2 : Int32)), .val (.int (1 : Int32)), .val (.int (5 : Int32)), .unset, .unset, .unset, .unset, .unset, .unset] [])) _
        refine XS.iloadN X0.here hx rfl (hb hby at_39) rfl ?_
        show Steps p.tables e below (s₁.setTop (mkF m 40 #[.val (.int i1), .val (.int i2), .val (.int i3), .val (.int i4), .val (.int i5), .val (.int (2 : Int32)), .val (.int (1 : Int32)), .val (.int (5 : Int32)), .unset, .unset, .unset, .unset, .unset, .unset] [(.int i1)])) _
        refine X0.ldcInt hx hown (mvT hZ (hw _ (List.mem_of_getElem? (i := 0) rfl))) (g := (mkF m 40 #[.val (.int i1), .val (.int i2), .val (.int i3), .val (.int i4), .val (.int i5), .val (.int (2 : Int32)), .val (.int (1 : Int32)), .val (.int (5 : Int32)), .unset, .unset, .unset, .unset, .unset, .unset] [(.int i1)])) rfl (hb hby at_40) _ ?_
        show Steps p.tables e below (s₁.setTop (mkF m 42 #[.val (.int i1), .val (.int i2), .val (.int i3), .val (.int i4), .val (.int i5), .val (.int (2 : Int32)), .val (.int (1 : Int32)), .val (.int (5 : Int32)), .unset, .unset, .unset, .unset, .unset, .unset] [(.int (65535 : Int32)), (.int i1)])) _
        refine XS.iand X0.here hx rfl (hb hby at_42) rfl ?_
        show Steps p.tables e below (s₁.setTop (mkF m 43 #[.val (.int i1), .val (.int i2), .val (.int i3), .val (.int i4), .val (.int i5), .val (.int (2 : Int32)), .val (.int (1 : Int32)), .val (.int (5 : Int32)), .unset, .unset, .unset, .unset, .unset, .unset] [(.int (i1 &&& (65535 : Int32)))])) _
        refine XS.istore X0.here hx rfl (hb hby at_43) rfl (l' := #[.val (.int i1), .val (.int i2), .val (.int i3), .val (.int i4), .val (.int i5), .val (.int (2 : Int32)), .val (.int (1 : Int32)), .val (.int (5 : Int32)), .val (.int (i1 &&& (65535 : Int32))), .unset, .unset, .unset, .unset, .unset]) rfl ?_
        show Steps p.tables e below (s₁.setTop (mkF m 45 #[.val (.int i1), .val (.int i2), .val (.int i3), .val (.int i4), .val (.int i5), .val (.int (2 : Int32)), .val (.int (1 : Int32)), .val (.int (5 : Int32)), .val (.int (i1 &&& (65535 : Int32))), .unset, .unset, .unset, .unset, .unset] [])) _
        refine XS.iloadN X0.here hx rfl (hb hby at_45) rfl ?_
        show Steps p.tables e below (s₁.setTop (mkF m 46 #[.val (.int i1), .val (.int i2), .val (.int i3), .val (.int i4), .val (.int i5), .val (.int (2 : Int32)), .val (.int (1 : Int32)), .val (.int (5 : Int32)), .val (.int (i1 &&& (65535 : Int32))), .unset, .unset, .unset, .unset, .unset] [(.int i2)])) _
        refine X0.ldcInt hx hown (mvT hZ (hw _ (List.mem_of_getElem? (i := 0) rfl))) (g := (mkF m 46 #[.val (.int i1), .val (.int i2), .val (.int i3), .val (.int i4), .val (.int i5), .val (.int (2 : Int32)), .val (.int (1 : Int32)), .val (.int (5 : Int32)), .val (.int (i1 &&& (65535 : Int32))), .unset, .unset, .unset, .unset, .unset] [(.int i2)])) rfl (hb hby at_46) _ ?_
        show Steps p.tables e below (s₁.setTop (mkF m 48 #[.val (.int i1), .val (.int i2), .val (.int i3), .val (.int i4), .val (.int i5), .val (.int (2 : Int32)), .val (.int (1 : Int32)), .val (.int (5 : Int32)), .val (.int (i1 &&& (65535 : Int32))), .unset, .unset, .unset, .unset, .unset] [(.int (65535 : Int32)), (.int i2)])) _
        refine XS.iand X0.here hx rfl (hb hby at_48) rfl ?_
        show Steps p.tables e below (s₁.setTop (mkF m 49 #[.val (.int i1), .val (.int i2), .val (.int i3), .val (.int i4), .val (.int i5), .val (.int (2 : Int32)), .val (.int (1 : Int32)), .val (.int (5 : Int32)), .val (.int (i1 &&& (65535 : Int32))), .unset, .unset, .unset, .unset, .unset] [(.int (i2 &&& (65535 : Int32)))])) _
        refine XS.istore X0.here hx rfl (hb hby at_49) rfl (l' := #[.val (.int i1), .val (.int i2), .val (.int i3), .val (.int i4), .val (.int i5), .val (.int (2 : Int32)), .val (.int (1 : Int32)), .val (.int (5 : Int32)), .val (.int (i1 &&& (65535 : Int32))), .val (.int (i2 &&& (65535 : Int32))), .unset, .unset, .unset, .unset]) rfl ?_
        show Steps p.tables e below (s₁.setTop (mkF m 51 #[.val (.int i1), .val (.int i2), .val (.int i3), .val (.int i4), .val (.int i5), .val (.int (2 : Int32)), .val (.int (1 : Int32)), .val (.int (5 : Int32)), .val (.int (i1 &&& (65535 : Int32))), .val (.int (i2 &&& (65535 : Int32))), .unset, .unset, .unset, .unset] [])) _
        refine XS.iloadN X0.here hx rfl (hb hby at_51) rfl ?_
        show Steps p.tables e below (s₁.setTop (mkF m 52 #[.val (.int i1), .val (.int i2), .val (.int i3), .val (.int i4), .val (.int i5), .val (.int (2 : Int32)), .val (.int (1 : Int32)), .val (.int (5 : Int32)), .val (.int (i1 &&& (65535 : Int32))), .val (.int (i2 &&& (65535 : Int32))), .unset, .unset, .unset, .unset] [(.int i3)])) _
        refine X0.ldcInt hx hown (mvT hZ (hw _ (List.mem_of_getElem? (i := 0) rfl))) (g := (mkF m 52 #[.val (.int i1), .val (.int i2), .val (.int i3), .val (.int i4), .val (.int i5), .val (.int (2 : Int32)), .val (.int (1 : Int32)), .val (.int (5 : Int32)), .val (.int (i1 &&& (65535 : Int32))), .val (.int (i2 &&& (65535 : Int32))), .unset, .unset, .unset, .unset] [(.int i3)])) rfl (hb hby at_52) _ ?_
        show Steps p.tables e below (s₁.setTop (mkF m 54 #[.val (.int i1), .val (.int i2), .val (.int i3), .val (.int i4), .val (.int i5), .val (.int (2 : Int32)), .val (.int (1 : Int32)), .val (.int (5 : Int32)), .val (.int (i1 &&& (65535 : Int32))), .val (.int (i2 &&& (65535 : Int32))), .unset, .unset, .unset, .unset] [(.int (65535 : Int32)), (.int i3)])) _
        refine XS.iand X0.here hx rfl (hb hby at_54) rfl ?_
        show Steps p.tables e below (s₁.setTop (mkF m 55 #[.val (.int i1), .val (.int i2), .val (.int i3), .val (.int i4), .val (.int i5), .val (.int (2 : Int32)), .val (.int (1 : Int32)), .val (.int (5 : Int32)), .val (.int (i1 &&& (65535 : Int32))), .val (.int (i2 &&& (65535 : Int32))), .unset, .unset, .unset, .unset] [(.int (i3 &&& (65535 : Int32)))])) _
        refine XS.istore X0.here hx rfl (hb hby at_55) rfl (l' := #[.val (.int i1), .val (.int i2), .val (.int i3), .val (.int i4), .val (.int i5), .val (.int (2 : Int32)), .val (.int (1 : Int32)), .val (.int (5 : Int32)), .val (.int (i1 &&& (65535 : Int32))), .val (.int (i2 &&& (65535 : Int32))), .val (.int (i3 &&& (65535 : Int32))), .unset, .unset, .unset]) rfl ?_
        show Steps p.tables e below (s₁.setTop (mkF m 57 #[.val (.int i1), .val (.int i2), .val (.int i3), .val (.int i4), .val (.int i5), .val (.int (2 : Int32)), .val (.int (1 : Int32)), .val (.int (5 : Int32)), .val (.int (i1 &&& (65535 : Int32))), .val (.int (i2 &&& (65535 : Int32))), .val (.int (i3 &&& (65535 : Int32))), .unset, .unset, .unset] [])) _
        refine XS.iload X0.here hx rfl (hb hby at_57) rfl ?_
        show Steps p.tables e below (s₁.setTop (mkF m 59 #[.val (.int i1), .val (.int i2), .val (.int i3), .val (.int i4), .val (.int i5), .val (.int (2 : Int32)), .val (.int (1 : Int32)), .val (.int (5 : Int32)), .val (.int (i1 &&& (65535 : Int32))), .val (.int (i2 &&& (65535 : Int32))), .val (.int (i3 &&& (65535 : Int32))), .unset, .unset, .unset] [(.int (5 : Int32))])) _
        refine st110 _ ?_
        show Steps p.tables e below (T110.setTop (mkF m 61 #[.val (.int i1), .val (.int i2), .val (.int i3), .val (.int i4), .val (.int i5), .val (.int (2 : Int32)), .val (.int (1 : Int32)), .val (.int (5 : Int32)), .val (.int (i1 &&& (65535 : Int32))), .val (.int (i2 &&& (65535 : Int32))), .val (.int (i3 &&& (65535 : Int32))), .unset, .unset, .unset] [(.ref b110)])) _
        refine XS.astore X110.here hx rfl (hb hby at_61) rfl rfl (l' := #[.val (.int i1), .val (.int i2), .val (.int i3), .val (.int i4), .val (.int i5), .val (.int (2 : Int32)), .val (.int (1 : Int32)), .val (.int (5 : Int32)), .val (.int (i1 &&& (65535 : Int32))), .val (.int (i2 &&& (65535 : Int32))), .val (.int (i3 &&& (65535 : Int32))), .val (.ref b110), .unset, .unset]) rfl ?_
        show Steps p.tables e below (T110.setTop (mkF m 63 #[.val (.int i1), .val (.int i2), .val (.int i3), .val (.int i4), .val (.int i5), .val (.int (2 : Int32)), .val (.int (1 : Int32)), .val (.int (5 : Int32)), .val (.int (i1 &&& (65535 : Int32))), .val (.int (i2 &&& (65535 : Int32))), .val (.int (i3 &&& (65535 : Int32))), .val (.ref b110), .unset, .unset] [])) _
        refine XS.iload X110.here hx rfl (hb hby at_63) rfl ?_
        show Steps p.tables e below (T110.setTop (mkF m 65 #[.val (.int i1), .val (.int i2), .val (.int i3), .val (.int i4), .val (.int i5), .val (.int (2 : Int32)), .val (.int (1 : Int32)), .val (.int (5 : Int32)), .val (.int (i1 &&& (65535 : Int32))), .val (.int (i2 &&& (65535 : Int32))), .val (.int (i3 &&& (65535 : Int32))), .val (.ref b110), .unset, .unset] [(.int (2 : Int32))])) _
        refine XS.ifNo X110.here hx rfl (hb hby at_65) rfl ((if0 _ _).trans (tlt (by decide : (0 : Int32) < (2 : Int32))).2.2.2) ?_
        show Steps p.tables e below (T110.setTop (mkF m 68 #[.val (.int i1), .val (.int i2), .val (.int i3), .val (.int i4), .val (.int i5), .val (.int (2 : Int32)), .val (.int (1 : Int32)), .val (.int (5 : Int32)), .val (.int (i1 &&& (65535 : Int32))), .val (.int (i2 &&& (65535 : Int32))), .val (.int (i3 &&& (65535 : Int32))), .val (.ref b110), .unset, .unset] [])) _
        refine XS.aload X110.here hx rfl (hb hby at_68) rfl rfl ?_
        show Steps p.tables e below (T110.setTop (mkF m 70 #[.val (.int i1), .val (.int i2), .val (.int i3), .val (.int i4), .val (.int i5), .val (.int (2 : Int32)), .val (.int (1 : Int32)), .val (.int (5 : Int32)), .val (.int (i1 &&& (65535 : Int32))), .val (.int (i2 &&& (65535 : Int32))), .val (.int (i3 &&& (65535 : Int32))), .val (.ref b110), .unset, .unset] [(.ref b110)])) _
        refine XS.iconst X110.here hx rfl (hb hby at_70) ?_
        show Steps p.tables e below (T110.setTop (mkF m 71 #[.val (.int i1), .val (.int i2), .val (.int i3), .val (.int i4), .val (.int i5), .val (.int (2 : Int32)), .val (.int (1 : Int32)), .val (.int (5 : Int32)), .val (.int (i1 &&& (65535 : Int32))), .val (.int (i2 &&& (65535 : Int32))), .val (.int (i3 &&& (65535 : Int32))), .val (.ref b110), .unset, .unset] [(.int (0 : Int32)), (.ref b110)])) _
        refine XS.iload X110.here hx rfl (hb hby at_71) rfl ?_
        show Steps p.tables e below (T110.setTop (mkF m 73 #[.val (.int i1), .val (.int i2), .val (.int i3), .val (.int i4), .val (.int i5), .val (.int (2 : Int32)), .val (.int (1 : Int32)), .val (.int (5 : Int32)), .val (.int (i1 &&& (65535 : Int32))), .val (.int (i2 &&& (65535 : Int32))), .val (.int (i3 &&& (65535 : Int32))), .val (.ref b110), .unset, .unset] [(.int (i1 &&& (65535 : Int32))), (.int (0 : Int32)), (.ref b110)])) _
        refine XS.bipush X110.here hx rfl (hb hby at_73) ?_
        show Steps p.tables e below (T110.setTop (mkF m 75 #[.val (.int i1), .val (.int i2), .val (.int i3), .val (.int i4), .val (.int i5), .val (.int (2 : Int32)), .val (.int (1 : Int32)), .val (.int (5 : Int32)), .val (.int (i1 &&& (65535 : Int32))), .val (.int (i2 &&& (65535 : Int32))), .val (.int (i3 &&& (65535 : Int32))), .val (.ref b110), .unset, .unset] [(.int (8 : Int32)), (.int (i1 &&& (65535 : Int32))), (.int (0 : Int32)), (.ref b110)])) _
        refine XS.iushr X110.here hx rfl (hb hby at_75) rfl ?_
        show Steps p.tables e below (T110.setTop (mkF m 76 #[.val (.int i1), .val (.int i2), .val (.int i3), .val (.int i4), .val (.int i5), .val (.int (2 : Int32)), .val (.int (1 : Int32)), .val (.int (5 : Int32)), .val (.int (i1 &&& (65535 : Int32))), .val (.int (i2 &&& (65535 : Int32))), .val (.int (i3 &&& (65535 : Int32))), .val (.ref b110), .unset, .unset] [(.int (((i1 &&& (65535 : Int32)).toUInt32 >>> ((8 : Int32) &&& 31).toUInt32).toInt32)), (.int (0 : Int32)), (.ref b110)])) _
        refine XS.i2b X110.here hx rfl (hb hby at_76) rfl ?_
        show Steps p.tables e below (T110.setTop (mkF m 77 #[.val (.int i1), .val (.int i2), .val (.int i3), .val (.int i4), .val (.int i5), .val (.int (2 : Int32)), .val (.int (1 : Int32)), .val (.int (5 : Int32)), .val (.int (i1 &&& (65535 : Int32))), .val (.int (i2 &&& (65535 : Int32))), .val (.int (i3 &&& (65535 : Int32))), .val (.ref b110), .unset, .unset] [(.int ((((i1 &&& (65535 : Int32)).toUInt32 >>> ((8 : Int32) &&& 31).toUInt32).toInt32).toInt8.toInt32)), (.int (0 : Int32)), (.ref b110)])) _
        refine st112 _ ?_
        show Steps p.tables e below (T112.setTop (mkF m 78 #[.val (.int i1), .val (.int i2), .val (.int i3), .val (.int i4), .val (.int i5), .val (.int (2 : Int32)), .val (.int (1 : Int32)), .val (.int (5 : Int32)), .val (.int (i1 &&& (65535 : Int32))), .val (.int (i2 &&& (65535 : Int32))), .val (.int (i3 &&& (65535 : Int32))), .val (.ref b110), .unset, .unset] [])) _
        refine XS.aload X112.here hx rfl (hb hby at_78) rfl rfl ?_
        show Steps p.tables e below (T112.setTop (mkF m 80 #[.val (.int i1), .val (.int i2), .val (.int i3), .val (.int i4), .val (.int i5), .val (.int (2 : Int32)), .val (.int (1 : Int32)), .val (.int (5 : Int32)), .val (.int (i1 &&& (65535 : Int32))), .val (.int (i2 &&& (65535 : Int32))), .val (.int (i3 &&& (65535 : Int32))), .val (.ref b110), .unset, .unset] [(.ref b110)])) _
        refine XS.iconst X112.here hx rfl (hb hby at_80) ?_
        show Steps p.tables e below (T112.setTop (mkF m 81 #[.val (.int i1), .val (.int i2), .val (.int i3), .val (.int i4), .val (.int i5), .val (.int (2 : Int32)), .val (.int (1 : Int32)), .val (.int (5 : Int32)), .val (.int (i1 &&& (65535 : Int32))), .val (.int (i2 &&& (65535 : Int32))), .val (.int (i3 &&& (65535 : Int32))), .val (.ref b110), .unset, .unset] [(.int (1 : Int32)), (.ref b110)])) _
        refine XS.iload X112.here hx rfl (hb hby at_81) rfl ?_
        show Steps p.tables e below (T112.setTop (mkF m 83 #[.val (.int i1), .val (.int i2), .val (.int i3), .val (.int i4), .val (.int i5), .val (.int (2 : Int32)), .val (.int (1 : Int32)), .val (.int (5 : Int32)), .val (.int (i1 &&& (65535 : Int32))), .val (.int (i2 &&& (65535 : Int32))), .val (.int (i3 &&& (65535 : Int32))), .val (.ref b110), .unset, .unset] [(.int (i1 &&& (65535 : Int32))), (.int (1 : Int32)), (.ref b110)])) _
        refine XS.i2b X112.here hx rfl (hb hby at_83) rfl ?_
        show Steps p.tables e below (T112.setTop (mkF m 84 #[.val (.int i1), .val (.int i2), .val (.int i3), .val (.int i4), .val (.int i5), .val (.int (2 : Int32)), .val (.int (1 : Int32)), .val (.int (5 : Int32)), .val (.int (i1 &&& (65535 : Int32))), .val (.int (i2 &&& (65535 : Int32))), .val (.int (i3 &&& (65535 : Int32))), .val (.ref b110), .unset, .unset] [(.int ((i1 &&& (65535 : Int32)).toInt8.toInt32)), (.int (1 : Int32)), (.ref b110)])) _
        refine st114 _ ?_
        show Steps p.tables e below (T114.setTop (mkF m 85 #[.val (.int i1), .val (.int i2), .val (.int i3), .val (.int i4), .val (.int i5), .val (.int (2 : Int32)), .val (.int (1 : Int32)), .val (.int (5 : Int32)), .val (.int (i1 &&& (65535 : Int32))), .val (.int (i2 &&& (65535 : Int32))), .val (.int (i3 &&& (65535 : Int32))), .val (.ref b110), .unset, .unset] [])) _
        refine XS.iload X114.here hx rfl (hb hby at_85) rfl ?_
        show Steps p.tables e below (T114.setTop (mkF m 87 #[.val (.int i1), .val (.int i2), .val (.int i3), .val (.int i4), .val (.int i5), .val (.int (2 : Int32)), .val (.int (1 : Int32)), .val (.int (5 : Int32)), .val (.int (i1 &&& (65535 : Int32))), .val (.int (i2 &&& (65535 : Int32))), .val (.int (i3 &&& (65535 : Int32))), .val (.ref b110), .unset, .unset] [(.int (2 : Int32))])) _
        refine XS.iconst X114.here hx rfl (hb hby at_87) ?_
        show Steps p.tables e below (T114.setTop (mkF m 88 #[.val (.int i1), .val (.int i2), .val (.int i3), .val (.int i4), .val (.int i5), .val (.int (2 : Int32)), .val (.int (1 : Int32)), .val (.int (5 : Int32)), .val (.int (i1 &&& (65535 : Int32))), .val (.int (i2 &&& (65535 : Int32))), .val (.int (i3 &&& (65535 : Int32))), .val (.ref b110), .unset, .unset] [(.int (1 : Int32)), (.int (2 : Int32))])) _
        refine XS.icmpNo X114.here hx rfl (hb hby at_88) rfl (tlt (by decide : (1 : Int32) < (2 : Int32))).2.2.2 ?_
        show Steps p.tables e below (T114.setTop (mkF m 91 #[.val (.int i1), .val (.int i2), .val (.int i3), .val (.int i4), .val (.int i5), .val (.int (2 : Int32)), .val (.int (1 : Int32)), .val (.int (5 : Int32)), .val (.int (i1 &&& (65535 : Int32))), .val (.int (i2 &&& (65535 : Int32))), .val (.int (i3 &&& (65535 : Int32))), .val (.ref b110), .unset, .unset] [])) _
        refine XS.aload X114.here hx rfl (hb hby at_91) rfl rfl ?_
        show Steps p.tables e below (T114.setTop (mkF m 93 #[.val (.int i1), .val (.int i2), .val (.int i3), .val (.int i4), .val (.int i5), .val (.int (2 : Int32)), .val (.int (1 : Int32)), .val (.int (5 : Int32)), .val (.int (i1 &&& (65535 : Int32))), .val (.int (i2 &&& (65535 : Int32))), .val (.int (i3 &&& (65535 : Int32))), .val (.ref b110), .unset, .unset] [(.ref b110)])) _
        refine XS.iconst X114.here hx rfl (hb hby at_93) ?_
        show Steps p.tables e below (T114.setTop (mkF m 94 #[.val (.int i1), .val (.int i2), .val (.int i3), .val (.int i4), .val (.int i5), .val (.int (2 : Int32)), .val (.int (1 : Int32)), .val (.int (5 : Int32)), .val (.int (i1 &&& (65535 : Int32))), .val (.int (i2 &&& (65535 : Int32))), .val (.int (i3 &&& (65535 : Int32))), .val (.ref b110), .unset, .unset] [(.int (2 : Int32)), (.ref b110)])) _
        refine XS.iload X114.here hx rfl (hb hby at_94) rfl ?_
        show Steps p.tables e below (T114.setTop (mkF m 96 #[.val (.int i1), .val (.int i2), .val (.int i3), .val (.int i4), .val (.int i5), .val (.int (2 : Int32)), .val (.int (1 : Int32)), .val (.int (5 : Int32)), .val (.int (i1 &&& (65535 : Int32))), .val (.int (i2 &&& (65535 : Int32))), .val (.int (i3 &&& (65535 : Int32))), .val (.ref b110), .unset, .unset] [(.int (i2 &&& (65535 : Int32))), (.int (2 : Int32)), (.ref b110)])) _
        refine XS.bipush X114.here hx rfl (hb hby at_96) ?_
        show Steps p.tables e below (T114.setTop (mkF m 98 #[.val (.int i1), .val (.int i2), .val (.int i3), .val (.int i4), .val (.int i5), .val (.int (2 : Int32)), .val (.int (1 : Int32)), .val (.int (5 : Int32)), .val (.int (i1 &&& (65535 : Int32))), .val (.int (i2 &&& (65535 : Int32))), .val (.int (i3 &&& (65535 : Int32))), .val (.ref b110), .unset, .unset] [(.int (8 : Int32)), (.int (i2 &&& (65535 : Int32))), (.int (2 : Int32)), (.ref b110)])) _
        refine XS.iushr X114.here hx rfl (hb hby at_98) rfl ?_
        show Steps p.tables e below (T114.setTop (mkF m 99 #[.val (.int i1), .val (.int i2), .val (.int i3), .val (.int i4), .val (.int i5), .val (.int (2 : Int32)), .val (.int (1 : Int32)), .val (.int (5 : Int32)), .val (.int (i1 &&& (65535 : Int32))), .val (.int (i2 &&& (65535 : Int32))), .val (.int (i3 &&& (65535 : Int32))), .val (.ref b110), .unset, .unset] [(.int (((i2 &&& (65535 : Int32)).toUInt32 >>> ((8 : Int32) &&& 31).toUInt32).toInt32)), (.int (2 : Int32)), (.ref b110)])) _
        refine XS.i2b X114.here hx rfl (hb hby at_99) rfl ?_
        show Steps p.tables e below (T114.setTop (mkF m 100 #[.val (.int i1), .val (.int i2), .val (.int i3), .val (.int i4), .val (.int i5), .val (.int (2 : Int32)), .val (.int (1 : Int32)), .val (.int (5 : Int32)), .val (.int (i1 &&& (65535 : Int32))), .val (.int (i2 &&& (65535 : Int32))), .val (.int (i3 &&& (65535 : Int32))), .val (.ref b110), .unset, .unset] [(.int ((((i2 &&& (65535 : Int32)).toUInt32 >>> ((8 : Int32) &&& 31).toUInt32).toInt32).toInt8.toInt32)), (.int (2 : Int32)), (.ref b110)])) _
        refine st116 _ ?_
        show Steps p.tables e below (T116.setTop (mkF m 101 #[.val (.int i1), .val (.int i2), .val (.int i3), .val (.int i4), .val (.int i5), .val (.int (2 : Int32)), .val (.int (1 : Int32)), .val (.int (5 : Int32)), .val (.int (i1 &&& (65535 : Int32))), .val (.int (i2 &&& (65535 : Int32))), .val (.int (i3 &&& (65535 : Int32))), .val (.ref b110), .unset, .unset] [])) _
        refine XS.aload X116.here hx rfl (hb hby at_101) rfl rfl ?_
        show Steps p.tables e below (T116.setTop (mkF m 103 #[.val (.int i1), .val (.int i2), .val (.int i3), .val (.int i4), .val (.int i5), .val (.int (2 : Int32)), .val (.int (1 : Int32)), .val (.int (5 : Int32)), .val (.int (i1 &&& (65535 : Int32))), .val (.int (i2 &&& (65535 : Int32))), .val (.int (i3 &&& (65535 : Int32))), .val (.ref b110), .unset, .unset] [(.ref b110)])) _
        refine XS.iconst X116.here hx rfl (hb hby at_103) ?_
        show Steps p.tables e below (T116.setTop (mkF m 104 #[.val (.int i1), .val (.int i2), .val (.int i3), .val (.int i4), .val (.int i5), .val (.int (2 : Int32)), .val (.int (1 : Int32)), .val (.int (5 : Int32)), .val (.int (i1 &&& (65535 : Int32))), .val (.int (i2 &&& (65535 : Int32))), .val (.int (i3 &&& (65535 : Int32))), .val (.ref b110), .unset, .unset] [(.int (3 : Int32)), (.ref b110)])) _
        refine XS.iload X116.here hx rfl (hb hby at_104) rfl ?_
        show Steps p.tables e below (T116.setTop (mkF m 106 #[.val (.int i1), .val (.int i2), .val (.int i3), .val (.int i4), .val (.int i5), .val (.int (2 : Int32)), .val (.int (1 : Int32)), .val (.int (5 : Int32)), .val (.int (i1 &&& (65535 : Int32))), .val (.int (i2 &&& (65535 : Int32))), .val (.int (i3 &&& (65535 : Int32))), .val (.ref b110), .unset, .unset] [(.int (i2 &&& (65535 : Int32))), (.int (3 : Int32)), (.ref b110)])) _
        refine XS.i2b X116.here hx rfl (hb hby at_106) rfl ?_
        show Steps p.tables e below (T116.setTop (mkF m 107 #[.val (.int i1), .val (.int i2), .val (.int i3), .val (.int i4), .val (.int i5), .val (.int (2 : Int32)), .val (.int (1 : Int32)), .val (.int (5 : Int32)), .val (.int (i1 &&& (65535 : Int32))), .val (.int (i2 &&& (65535 : Int32))), .val (.int (i3 &&& (65535 : Int32))), .val (.ref b110), .unset, .unset] [(.int ((i2 &&& (65535 : Int32)).toInt8.toInt32)), (.int (3 : Int32)), (.ref b110)])) _
        refine st118 _ ?_
        show Steps p.tables e below (T118.setTop (mkF m 108 #[.val (.int i1), .val (.int i2), .val (.int i3), .val (.int i4), .val (.int i5), .val (.int (2 : Int32)), .val (.int (1 : Int32)), .val (.int (5 : Int32)), .val (.int (i1 &&& (65535 : Int32))), .val (.int (i2 &&& (65535 : Int32))), .val (.int (i3 &&& (65535 : Int32))), .val (.ref b110), .unset, .unset] [])) _
        refine XS.iload X118.here hx rfl (hb hby at_108) rfl ?_
        show Steps p.tables e below (T118.setTop (mkF m 110 #[.val (.int i1), .val (.int i2), .val (.int i3), .val (.int i4), .val (.int i5), .val (.int (2 : Int32)), .val (.int (1 : Int32)), .val (.int (5 : Int32)), .val (.int (i1 &&& (65535 : Int32))), .val (.int (i2 &&& (65535 : Int32))), .val (.int (i3 &&& (65535 : Int32))), .val (.ref b110), .unset, .unset] [(.int (2 : Int32))])) _
        refine XS.iconst X118.here hx rfl (hb hby at_110) ?_
        show Steps p.tables e below (T118.setTop (mkF m 111 #[.val (.int i1), .val (.int i2), .val (.int i3), .val (.int i4), .val (.int i5), .val (.int (2 : Int32)), .val (.int (1 : Int32)), .val (.int (5 : Int32)), .val (.int (i1 &&& (65535 : Int32))), .val (.int (i2 &&& (65535 : Int32))), .val (.int (i3 &&& (65535 : Int32))), .val (.ref b110), .unset, .unset] [(.int (2 : Int32)), (.int (2 : Int32))])) _
        refine XS.icmpYes X118.here hx rfl (pc0 := 111) (pc' := 131) rfl (hb hby at_111) rfl (flt (by decide : ¬ ((2 : Int32) < (2 : Int32)))).2.2.2 (by decide) (by decide) ?_
        show Steps p.tables e below (T118.setTop (mkF m 131 #[.val (.int i1), .val (.int i2), .val (.int i3), .val (.int i4), .val (.int i5), .val (.int (2 : Int32)), .val (.int (1 : Int32)), .val (.int (5 : Int32)), .val (.int (i1 &&& (65535 : Int32))), .val (.int (i2 &&& (65535 : Int32))), .val (.int (i3 &&& (65535 : Int32))), .val (.ref b110), .unset, .unset] [])) _
        refine XS.iload X118.here hx rfl (hb hby at_131) rfl ?_
        show Steps p.tables e below (T118.setTop (mkF m 133 #[.val (.int i1), .val (.int i2), .val (.int i3), .val (.int i4), .val (.int i5), .val (.int (2 : Int32)), .val (.int (1 : Int32)), .val (.int (5 : Int32)), .val (.int (i1 &&& (65535 : Int32))), .val (.int (i2 &&& (65535 : Int32))), .val (.int (i3 &&& (65535 : Int32))), .val (.ref b110), .unset, .unset] [(.int (1 : Int32))])) _
        refine XS.ifNo X118.here hx rfl (hb hby at_133) rfl ((if0 _ _).trans (feq (by decide : ¬ ((1 : Int32) = (0 : Int32)))).1) ?_
        show Steps p.tables e below (T118.setTop (mkF m 136 #[.val (.int i1), .val (.int i2), .val (.int i3), .val (.int i4), .val (.int i5), .val (.int (2 : Int32)), .val (.int (1 : Int32)), .val (.int (5 : Int32)), .val (.int (i1 &&& (65535 : Int32))), .val (.int (i2 &&& (65535 : Int32))), .val (.int (i3 &&& (65535 : Int32))), .val (.ref b110), .unset, .unset] [])) _
        refine XS.aload X118.here hx rfl (hb hby at_136) rfl rfl ?_
        show Steps p.tables e below (T118.setTop (mkF m 138 #[.val (.int i1), .val (.int i2), .val (.int i3), .val (.int i4), .val (.int i5), .val (.int (2 : Int32)), .val (.int (1 : Int32)), .val (.int (5 : Int32)), .val (.int (i1 &&& (65535 : Int32))), .val (.int (i2 &&& (65535 : Int32))), .val (.int (i3 &&& (65535 : Int32))), .val (.ref b110), .unset, .unset] [(.ref b110)])) _
        refine XS.iconst X118.here hx rfl (hb hby at_138) ?_
        show Steps p.tables e below (T118.setTop (mkF m 139 #[.val (.int i1), .val (.int i2), .val (.int i3), .val (.int i4), .val (.int i5), .val (.int (2 : Int32)), .val (.int (1 : Int32)), .val (.int (5 : Int32)), .val (.int (i1 &&& (65535 : Int32))), .val (.int (i2 &&& (65535 : Int32))), .val (.int (i3 &&& (65535 : Int32))), .val (.ref b110), .unset, .unset] [(.int (2 : Int32)), (.ref b110)])) _
        refine XS.iload X118.here hx rfl (hb hby at_139) rfl ?_
        show Steps p.tables e below (T118.setTop (mkF m 141 #[.val (.int i1), .val (.int i2), .val (.int i3), .val (.int i4), .val (.int i5), .val (.int (2 : Int32)), .val (.int (1 : Int32)), .val (.int (5 : Int32)), .val (.int (i1 &&& (65535 : Int32))), .val (.int (i2 &&& (65535 : Int32))), .val (.int (i3 &&& (65535 : Int32))), .val (.ref b110), .unset, .unset] [(.int (2 : Int32)), (.int (2 : Int32)), (.ref b110)])) _
        refine XS.imul X118.here hx rfl (hb hby at_141) rfl ?_
        show Steps p.tables e below (T118.setTop (mkF m 142 #[.val (.int i1), .val (.int i2), .val (.int i3), .val (.int i4), .val (.int i5), .val (.int (2 : Int32)), .val (.int (1 : Int32)), .val (.int (5 : Int32)), .val (.int (i1 &&& (65535 : Int32))), .val (.int (i2 &&& (65535 : Int32))), .val (.int (i3 &&& (65535 : Int32))), .val (.ref b110), .unset, .unset] [(.int (4 : Int32)), (.ref b110)])) _
        refine XS.iloadN X118.here hx rfl (hb hby at_142) rfl ?_
        show Steps p.tables e below (T118.setTop (mkF m 143 #[.val (.int i1), .val (.int i2), .val (.int i3), .val (.int i4), .val (.int i5), .val (.int (2 : Int32)), .val (.int (1 : Int32)), .val (.int (5 : Int32)), .val (.int (i1 &&& (65535 : Int32))), .val (.int (i2 &&& (65535 : Int32))), .val (.int (i3 &&& (65535 : Int32))), .val (.ref b110), .unset, .unset] [(.int i4), (.int (4 : Int32)), (.ref b110)])) _
        refine XS.i2b X118.here hx rfl (hb hby at_143) rfl ?_
        show Steps p.tables e below (T118.setTop (mkF m 144 #[.val (.int i1), .val (.int i2), .val (.int i3), .val (.int i4), .val (.int i5), .val (.int (2 : Int32)), .val (.int (1 : Int32)), .val (.int (5 : Int32)), .val (.int (i1 &&& (65535 : Int32))), .val (.int (i2 &&& (65535 : Int32))), .val (.int (i3 &&& (65535 : Int32))), .val (.ref b110), .unset, .unset] [(.int (i4.toInt8.toInt32)), (.int (4 : Int32)), (.ref b110)])) _
        refine st120 _ ?_
        show Steps p.tables e below (T120.setTop (mkF m 145 #[.val (.int i1), .val (.int i2), .val (.int i3), .val (.int i4), .val (.int i5), .val (.int (2 : Int32)), .val (.int (1 : Int32)), .val (.int (5 : Int32)), .val (.int (i1 &&& (65535 : Int32))), .val (.int (i2 &&& (65535 : Int32))), .val (.int (i3 &&& (65535 : Int32))), .val (.ref b110), .unset, .unset] [])) _
        refine XS.aload X120.here hx rfl (hb hby at_145) rfl rfl ?_
        show Steps p.tables e below (T120.setTop (mkF m 147 #[.val (.int i1), .val (.int i2), .val (.int i3), .val (.int i4), .val (.int i5), .val (.int (2 : Int32)), .val (.int (1 : Int32)), .val (.int (5 : Int32)), .val (.int (i1 &&& (65535 : Int32))), .val (.int (i2 &&& (65535 : Int32))), .val (.int (i3 &&& (65535 : Int32))), .val (.ref b110), .unset, .unset] [(.ref b110)])) _
        refine st122 _ ?_
        show Steps p.tables e below (T122.setTop (mkF m 150 #[.val (.int i1), .val (.int i2), .val (.int i3), .val (.int i4), .val (.int i5), .val (.int (2 : Int32)), .val (.int (1 : Int32)), .val (.int (5 : Int32)), .val (.int (i1 &&& (65535 : Int32))), .val (.int (i2 &&& (65535 : Int32))), .val (.int (i3 &&& (65535 : Int32))), .val (.ref b110), .unset, .unset] [(.ref b122_0)])) _
        refine XS.astore X122.here hx rfl (hb hby at_150) rfl rfl (l' := #[.val (.int i1), .val (.int i2), .val (.int i3), .val (.int i4), .val (.int i5), .val (.int (2 : Int32)), .val (.int (1 : Int32)), .val (.int (5 : Int32)), .val (.int (i1 &&& (65535 : Int32))), .val (.int (i2 &&& (65535 : Int32))), .val (.int (i3 &&& (65535 : Int32))), .val (.ref b110), .val (.ref b122_0), .unset]) rfl ?_
        show Steps p.tables e below (T122.setTop (mkF m 152 #[.val (.int i1), .val (.int i2), .val (.int i3), .val (.int i4), .val (.int i5), .val (.int (2 : Int32)), .val (.int (1 : Int32)), .val (.int (5 : Int32)), .val (.int (i1 &&& (65535 : Int32))), .val (.int (i2 &&& (65535 : Int32))), .val (.int (i3 &&& (65535 : Int32))), .val (.ref b110), .val (.ref b122_0), .unset] [])) _
        refine XS.aload X122.here hx rfl (hb hby at_152) rfl rfl ?_
        show Steps p.tables e below (T122.setTop (mkF m 154 #[.val (.int i1), .val (.int i2), .val (.int i3), .val (.int i4), .val (.int i5), .val (.int (2 : Int32)), .val (.int (1 : Int32)), .val (.int (5 : Int32)), .val (.int (i1 &&& (65535 : Int32))), .val (.int (i2 &&& (65535 : Int32))), .val (.int (i3 &&& (65535 : Int32))), .val (.ref b110), .val (.ref b122_0), .unset] [(.ref b122_0)])) _
        refine X122.arraylength hx (by exact Ar124.1) (State.isArrayOf_alike hZ.alike Ar124.2.1) (g := (mkF m 154 #[.val (.int i1), .val (.int i2), .val (.int i3), .val (.int i4), .val (.int i5), .val (.int (2 : Int32)), .val (.int (1 : Int32)), .val (.int (5 : Int32)), .val (.int (i1 &&& (65535 : Int32))), .val (.int (i2 &&& (65535 : Int32))), .val (.int (i3 &&& (65535 : Int32))), .val (.ref b110), .val (.ref b122_0), .unset] [(.ref b122_0)])) rfl rfl (hb hby at_154) _ ?_
        rw [len_of Sz124 Nn124]
        show Steps p.tables e below (T122.setTop (mkF m 155 #[.val (.int i1), .val (.int i2), .val (.int i3), .val (.int i4), .val (.int i5), .val (.int (2 : Int32)), .val (.int (1 : Int32)), .val (.int (5 : Int32)), .val (.int (i1 &&& (65535 : Int32))), .val (.int (i2 &&& (65535 : Int32))), .val (.int (i3 &&& (65535 : Int32))), .val (.ref b110), .val (.ref b122_0), .unset] [(.int (2 : Int32))])) _
        refine XS.iload X122.here hx rfl (hb hby at_155) rfl ?_
        show Steps p.tables e below (T122.setTop (mkF m 157 #[.val (.int i1), .val (.int i2), .val (.int i3), .val (.int i4), .val (.int i5), .val (.int (2 : Int32)), .val (.int (1 : Int32)), .val (.int (5 : Int32)), .val (.int (i1 &&& (65535 : Int32))), .val (.int (i2 &&& (65535 : Int32))), .val (.int (i3 &&& (65535 : Int32))), .val (.ref b110), .val (.ref b122_0), .unset] [(.int (2 : Int32)), (.int (2 : Int32))])) _
        refine XS.icmpYes X122.here hx rfl (pc0 := 157) (pc' := 162) rfl (hb hby at_157) rfl (teq (by decide : (2 : Int32) = (2 : Int32))).1 (by decide) (by decide) ?_
        show Steps p.tables e below (T122.setTop (mkF m 162 #[.val (.int i1), .val (.int i2), .val (.int i3), .val (.int i4), .val (.int i5), .val (.int (2 : Int32)), .val (.int (1 : Int32)), .val (.int (5 : Int32)), .val (.int (i1 &&& (65535 : Int32))), .val (.int (i2 &&& (65535 : Int32))), .val (.int (i3 &&& (65535 : Int32))), .val (.ref b110), .val (.ref b122_0), .unset] [])) _
        refine XS.iconst X122.here hx rfl (hb hby at_162) ?_
        show Steps p.tables e below (T122.setTop (mkF m 163 #[.val (.int i1), .val (.int i2), .val (.int i3), .val (.int i4), .val (.int i5), .val (.int (2 : Int32)), .val (.int (1 : Int32)), .val (.int (5 : Int32)), .val (.int (i1 &&& (65535 : Int32))), .val (.int (i2 &&& (65535 : Int32))), .val (.int (i3 &&& (65535 : Int32))), .val (.ref b110), .val (.ref b122_0), .unset] [(.int (1 : Int32))])) _
        refine XS.istore X122.here hx rfl (hb hby at_163) rfl (l' := #[.val (.int i1), .val (.int i2), .val (.int i3), .val (.int i4), .val (.int i5), .val (.int (2 : Int32)), .val (.int (1 : Int32)), .val (.int (5 : Int32)), .val (.int (i1 &&& (65535 : Int32))), .val (.int (i2 &&& (65535 : Int32))), .val (.int (i3 &&& (65535 : Int32))), .val (.ref b110), .val (.ref b122_0), .val (.int (1 : Int32))]) rfl ?_
        show Steps p.tables e below (T122.setTop (mkF m 165 #[.val (.int i1), .val (.int i2), .val (.int i3), .val (.int i4), .val (.int i5), .val (.int (2 : Int32)), .val (.int (1 : Int32)), .val (.int (5 : Int32)), .val (.int (i1 &&& (65535 : Int32))), .val (.int (i2 &&& (65535 : Int32))), .val (.int (i3 &&& (65535 : Int32))), .val (.ref b110), .val (.ref b122_0), .val (.int (1 : Int32))] [])) _
        refine XS.iload X122.here hx rfl (hb hby at_165) rfl ?_
        show Steps p.tables e below (T122.setTop (mkF m 167 #[.val (.int i1), .val (.int i2), .val (.int i3), .val (.int i4), .val (.int i5), .val (.int (2 : Int32)), .val (.int (1 : Int32)), .val (.int (5 : Int32)), .val (.int (i1 &&& (65535 : Int32))), .val (.int (i2 &&& (65535 : Int32))), .val (.int (i3 &&& (65535 : Int32))), .val (.ref b110), .val (.ref b122_0), .val (.int (1 : Int32))] [(.int (2 : Int32))])) _
        refine XS.ifNo X122.here hx rfl (hb hby at_167) rfl ((if0 _ _).trans (tlt (by decide : (0 : Int32) < (2 : Int32))).2.2.2) ?_
        show Steps p.tables e below (T122.setTop (mkF m 170 #[.val (.int i1), .val (.int i2), .val (.int i3), .val (.int i4), .val (.int i5), .val (.int (2 : Int32)), .val (.int (1 : Int32)), .val (.int (5 : Int32)), .val (.int (i1 &&& (65535 : Int32))), .val (.int (i2 &&& (65535 : Int32))), .val (.int (i3 &&& (65535 : Int32))), .val (.ref b110), .val (.ref b122_0), .val (.int (1 : Int32))] [])) _
        refine XS.iload X122.here hx rfl (hb hby at_170) rfl ?_
        show Steps p.tables e below (T122.setTop (mkF m 172 #[.val (.int i1), .val (.int i2), .val (.int i3), .val (.int i4), .val (.int i5), .val (.int (2 : Int32)), .val (.int (1 : Int32)), .val (.int (5 : Int32)), .val (.int (i1 &&& (65535 : Int32))), .val (.int (i2 &&& (65535 : Int32))), .val (.int (i3 &&& (65535 : Int32))), .val (.ref b110), .val (.ref b122_0), .val (.int (1 : Int32))] [(.int (1 : Int32))])) _
        refine XS.ifNo X122.here hx rfl (hb hby at_172) rfl ((if0 _ _).trans (feq (by decide : ¬ ((1 : Int32) = (0 : Int32)))).1) ?_
        show Steps p.tables e below (T122.setTop (mkF m 175 #[.val (.int i1), .val (.int i2), .val (.int i3), .val (.int i4), .val (.int i5), .val (.int (2 : Int32)), .val (.int (1 : Int32)), .val (.int (5 : Int32)), .val (.int (i1 &&& (65535 : Int32))), .val (.int (i2 &&& (65535 : Int32))), .val (.int (i3 &&& (65535 : Int32))), .val (.ref b110), .val (.ref b122_0), .val (.int (1 : Int32))] [])) _
        refine XS.aload X122.here hx rfl (hb hby at_175) rfl rfl ?_
        show Steps p.tables e below (T122.setTop (mkF m 177 #[.val (.int i1), .val (.int i2), .val (.int i3), .val (.int i4), .val (.int i5), .val (.int (2 : Int32)), .val (.int (1 : Int32)), .val (.int (5 : Int32)), .val (.int (i1 &&& (65535 : Int32))), .val (.int (i2 &&& (65535 : Int32))), .val (.int (i3 &&& (65535 : Int32))), .val (.ref b110), .val (.ref b122_0), .val (.int (1 : Int32))] [(.ref b122_0)])) _
        refine XS.iconst X122.here hx rfl (hb hby at_177) ?_
        show Steps p.tables e below (T122.setTop (mkF m 178 #[.val (.int i1), .val (.int i2), .val (.int i3), .val (.int i4), .val (.int i5), .val (.int (2 : Int32)), .val (.int (1 : Int32)), .val (.int (5 : Int32)), .val (.int (i1 &&& (65535 : Int32))), .val (.int (i2 &&& (65535 : Int32))), .val (.int (i3 &&& (65535 : Int32))), .val (.ref b110), .val (.ref b122_0), .val (.int (1 : Int32))] [(.int (0 : Int32)), (.ref b122_0)])) _
        refine X122.caload hx (j := (0 : Int32)) (v := (.int (nar .char (((((nar .byte ((((i1 &&& (65535 : Int32)).toUInt32 >>> ((8 : Int32) &&& 31).toUInt32).toInt32).toInt8.toInt32)) &&& (255 : Int32)) <<< ((8 : Int32) &&& 31)) ||| ((nar .byte ((i1 &&& (65535 : Int32)).toInt8.toInt32)) &&& (255 : Int32))).toUInt32.toUInt16.toUInt32.toInt32)))) (by exact Ar125.1) (State.isArrayOf_alike hZ.alike Ar125.2.1) Ar125.2.2 hin125 hat125 (g := (mkF m 178 #[.val (.int i1), .val (.int i2), .val (.int i3), .val (.int i4), .val (.int i5), .val (.int (2 : Int32)), .val (.int (1 : Int32)), .val (.int (5 : Int32)), .val (.int (i1 &&& (65535 : Int32))), .val (.int (i2 &&& (65535 : Int32))), .val (.int (i3 &&& (65535 : Int32))), .val (.ref b110), .val (.ref b122_0), .val (.int (1 : Int32))] [(.int (0 : Int32)), (.ref b122_0)])) rfl rfl (hb hby at_178) _ ?_
        show Steps p.tables e below (T122.setTop (mkF m 179 #[.val (.int i1), .val (.int i2), .val (.int i3), .val (.int i4), .val (.int i5), .val (.int (2 : Int32)), .val (.int (1 : Int32)), .val (.int (5 : Int32)), .val (.int (i1 &&& (65535 : Int32))), .val (.int (i2 &&& (65535 : Int32))), .val (.int (i3 &&& (65535 : Int32))), .val (.ref b110), .val (.ref b122_0), .val (.int (1 : Int32))] [(.int (nar .char (((((nar .byte ((((i1 &&& (65535 : Int32)).toUInt32 >>> ((8 : Int32) &&& 31).toUInt32).toInt32).toInt8.toInt32)) &&& (255 : Int32)) <<< ((8 : Int32) &&& 31)) ||| ((nar .byte ((i1 &&& (65535 : Int32)).toInt8.toInt32)) &&& (255 : Int32))).toUInt32.toUInt16.toUInt32.toInt32)))])) _
        refine XS.iload X122.here hx rfl (hb hby at_179) rfl ?_
        exact k
      have pre130 : ∀ t, Steps p.tables e below (T122.setTop (mkF m 189 #[.val (.int i1), .val (.int i2), .val (.int i3), .val (.int i4), .val (.int i5), .val (.int (2 : Int32)), .val (.int (1 : Int32)), .val (.int (5 : Int32)), .val (.int (i1 &&& (65535 : Int32))), .val (.int (i2 &&& (65535 : Int32))), .val (.int (i3 &&& (65535 : Int32))), .val (.ref b110), .val (.ref b122_0), .val (.int (1 : Int32))] [(.int (own_j0_181_0 i1))])) t → Steps p.tables e below (s₁.setTop (entryFrame m #[(.int i1), (.int i2), (.int i3), (.int i4), (.int i5)] maxLocals)) t := by
        by_cases hc181_127 : (nar .char (((((nar .byte ((((i1 &&& (65535 : Int32)).toUInt32 >>> ((8 : Int32) &&& 31).toUInt32).toInt32).toInt8.toInt32)) &&& (255 : Int32)) <<< ((8 : Int32) &&& 31)) ||| ((nar .byte ((i1 &&& (65535 : Int32)).toInt8.toInt32)) &&& (255 : Int32))).toUInt32.toUInt16.toUInt32.toInt32)) = (i1 &&& (65535 : Int32))
        · have pre128 : ∀ t, Steps p.tables e below (T122.setTop (mkF m 189 #[.val (.int i1), .val (.int i2), .val (.int i3), .val (.int i4), .val (.int i5), .val (.int (2 : Int32)), .val (.int (1 : Int32)), .val (.int (5 : Int32)), .val (.int (i1 &&& (65535 : Int32))), .val (.int (i2 &&& (65535 : Int32))), .val (.int (i3 &&& (65535 : Int32))), .val (.ref b110), .val (.ref b122_0), .val (.int (1 : Int32))] [(.int (1 : Int32))])) t → Steps p.tables e below (s₁.setTop (entryFrame m #[(.int i1), (.int i2), (.int i3), (.int i4), (.int i5)] maxLocals)) t := by
            intro t k
            refine pre126 _ ?_
            show Steps p.tables e below (T122.setTop (mkF m 181 #[.val (.int i1), .val (.int i2), .val (.int i3), .val (.int i4), .val (.int i5), .val (.int (2 : Int32)), .val (.int (1 : Int32)), .val (.int (5 : Int32)), .val (.int (i1 &&& (65535 : Int32))), .val (.int (i2 &&& (65535 : Int32))), .val (.int (i3 &&& (65535 : Int32))), .val (.ref b110), .val (.ref b122_0), .val (.int (1 : Int32))] [(.int (i1 &&& (65535 : Int32))), (.int (nar .char (((((nar .byte ((((i1 &&& (65535 : Int32)).toUInt32 >>> ((8 : Int32) &&& 31).toUInt32).toInt32).toInt8.toInt32)) &&& (255 : Int32)) <<< ((8 : Int32) &&& 31)) ||| ((nar .byte ((i1 &&& (65535 : Int32)).toInt8.toInt32)) &&& (255 : Int32))).toUInt32.toUInt16.toUInt32.toInt32)))])) _
            refine XS.icmpNo X122.here hx rfl (hb hby at_181) rfl (teq hc181_127).2 ?_
            show Steps p.tables e below (T122.setTop (mkF m 184 #[.val (.int i1), .val (.int i2), .val (.int i3), .val (.int i4), .val (.int i5), .val (.int (2 : Int32)), .val (.int (1 : Int32)), .val (.int (5 : Int32)), .val (.int (i1 &&& (65535 : Int32))), .val (.int (i2 &&& (65535 : Int32))), .val (.int (i3 &&& (65535 : Int32))), .val (.ref b110), .val (.ref b122_0), .val (.int (1 : Int32))] [])) _
            refine XS.iconst X122.here hx rfl (hb hby at_184) ?_
            show Steps p.tables e below (T122.setTop (mkF m 185 #[.val (.int i1), .val (.int i2), .val (.int i3), .val (.int i4), .val (.int i5), .val (.int (2 : Int32)), .val (.int (1 : Int32)), .val (.int (5 : Int32)), .val (.int (i1 &&& (65535 : Int32))), .val (.int (i2 &&& (65535 : Int32))), .val (.int (i3 &&& (65535 : Int32))), .val (.ref b110), .val (.ref b122_0), .val (.int (1 : Int32))] [(.int (1 : Int32))])) _
            refine XS.goto X122.here hx rfl (pc0 := 185) (pc' := 189) rfl (hb hby at_185) (by decide) (by decide) ?_
            exact k
          exact fun t k => pre128 t (by rw [show (own_j0_181_0 i1) = (1 : Int32) from (if_pos hc181_127)] at k; exact k)
        · have pre129 : ∀ t, Steps p.tables e below (T122.setTop (mkF m 189 #[.val (.int i1), .val (.int i2), .val (.int i3), .val (.int i4), .val (.int i5), .val (.int (2 : Int32)), .val (.int (1 : Int32)), .val (.int (5 : Int32)), .val (.int (i1 &&& (65535 : Int32))), .val (.int (i2 &&& (65535 : Int32))), .val (.int (i3 &&& (65535 : Int32))), .val (.ref b110), .val (.ref b122_0), .val (.int (1 : Int32))] [(.int (0 : Int32))])) t → Steps p.tables e below (s₁.setTop (entryFrame m #[(.int i1), (.int i2), (.int i3), (.int i4), (.int i5)] maxLocals)) t := by
            intro t k
            refine pre126 _ ?_
            show Steps p.tables e below (T122.setTop (mkF m 181 #[.val (.int i1), .val (.int i2), .val (.int i3), .val (.int i4), .val (.int i5), .val (.int (2 : Int32)), .val (.int (1 : Int32)), .val (.int (5 : Int32)), .val (.int (i1 &&& (65535 : Int32))), .val (.int (i2 &&& (65535 : Int32))), .val (.int (i3 &&& (65535 : Int32))), .val (.ref b110), .val (.ref b122_0), .val (.int (1 : Int32))] [(.int (i1 &&& (65535 : Int32))), (.int (nar .char (((((nar .byte ((((i1 &&& (65535 : Int32)).toUInt32 >>> ((8 : Int32) &&& 31).toUInt32).toInt32).toInt8.toInt32)) &&& (255 : Int32)) <<< ((8 : Int32) &&& 31)) ||| ((nar .byte ((i1 &&& (65535 : Int32)).toInt8.toInt32)) &&& (255 : Int32))).toUInt32.toUInt16.toUInt32.toInt32)))])) _
            refine XS.icmpYes X122.here hx rfl (pc0 := 181) (pc' := 188) rfl (hb hby at_181) rfl (feq hc181_127).2 (by decide) (by decide) ?_
            show Steps p.tables e below (T122.setTop (mkF m 188 #[.val (.int i1), .val (.int i2), .val (.int i3), .val (.int i4), .val (.int i5), .val (.int (2 : Int32)), .val (.int (1 : Int32)), .val (.int (5 : Int32)), .val (.int (i1 &&& (65535 : Int32))), .val (.int (i2 &&& (65535 : Int32))), .val (.int (i3 &&& (65535 : Int32))), .val (.ref b110), .val (.ref b122_0), .val (.int (1 : Int32))] [])) _
            refine XS.iconst X122.here hx rfl (hb hby at_188) ?_
            exact k
          exact fun t k => pre129 t (by rw [show (own_j0_181_0 i1) = (0 : Int32) from (if_neg hc181_127)] at k; exact k)
      have pre131 : ∀ t, Steps p.tables e below (T122.setTop (mkF m 199 #[.val (.int i1), .val (.int i2), .val (.int i3), .val (.int i4), .val (.int i5), .val (.int (2 : Int32)), .val (.int (1 : Int32)), .val (.int (5 : Int32)), .val (.int (i1 &&& (65535 : Int32))), .val (.int (i2 &&& (65535 : Int32))), .val (.int (i3 &&& (65535 : Int32))), .val (.ref b110), .val (.ref b122_0), .val (.int (own_j0_181_0 i1))] [(.int (own_j0_181_0 i1))])) t → Steps p.tables e below (s₁.setTop (entryFrame m #[(.int i1), (.int i2), (.int i3), (.int i4), (.int i5)] maxLocals)) t := by
        intro t k
        refine pre130 _ ?_
        show Steps p.tables e below (T122.setTop (mkF m 189 #[.val (.int i1), .val (.int i2), .val (.int i3), .val (.int i4), .val (.int i5), .val (.int (2 : Int32)), .val (.int (1 : Int32)), .val (.int (5 : Int32)), .val (.int (i1 &&& (65535 : Int32))), .val (.int (i2 &&& (65535 : Int32))), .val (.int (i3 &&& (65535 : Int32))), .val (.ref b110), .val (.ref b122_0), .val (.int (1 : Int32))] [(.int (own_j0_181_0 i1))])) _
        refine XS.istore X122.here hx rfl (hb hby at_189) rfl (l' := #[.val (.int i1), .val (.int i2), .val (.int i3), .val (.int i4), .val (.int i5), .val (.int (2 : Int32)), .val (.int (1 : Int32)), .val (.int (5 : Int32)), .val (.int (i1 &&& (65535 : Int32))), .val (.int (i2 &&& (65535 : Int32))), .val (.int (i3 &&& (65535 : Int32))), .val (.ref b110), .val (.ref b122_0), .val (.int (own_j0_181_0 i1))]) rfl ?_
        show Steps p.tables e below (T122.setTop (mkF m 191 #[.val (.int i1), .val (.int i2), .val (.int i3), .val (.int i4), .val (.int i5), .val (.int (2 : Int32)), .val (.int (1 : Int32)), .val (.int (5 : Int32)), .val (.int (i1 &&& (65535 : Int32))), .val (.int (i2 &&& (65535 : Int32))), .val (.int (i3 &&& (65535 : Int32))), .val (.ref b110), .val (.ref b122_0), .val (.int (own_j0_181_0 i1))] [])) _
        refine XS.iload X122.here hx rfl (hb hby at_191) rfl ?_
        show Steps p.tables e below (T122.setTop (mkF m 193 #[.val (.int i1), .val (.int i2), .val (.int i3), .val (.int i4), .val (.int i5), .val (.int (2 : Int32)), .val (.int (1 : Int32)), .val (.int (5 : Int32)), .val (.int (i1 &&& (65535 : Int32))), .val (.int (i2 &&& (65535 : Int32))), .val (.int (i3 &&& (65535 : Int32))), .val (.ref b110), .val (.ref b122_0), .val (.int (own_j0_181_0 i1))] [(.int (2 : Int32))])) _
        refine XS.iconst X122.here hx rfl (hb hby at_193) ?_
        show Steps p.tables e below (T122.setTop (mkF m 194 #[.val (.int i1), .val (.int i2), .val (.int i3), .val (.int i4), .val (.int i5), .val (.int (2 : Int32)), .val (.int (1 : Int32)), .val (.int (5 : Int32)), .val (.int (i1 &&& (65535 : Int32))), .val (.int (i2 &&& (65535 : Int32))), .val (.int (i3 &&& (65535 : Int32))), .val (.ref b110), .val (.ref b122_0), .val (.int (own_j0_181_0 i1))] [(.int (1 : Int32)), (.int (2 : Int32))])) _
        refine XS.icmpNo X122.here hx rfl (hb hby at_194) rfl (tlt (by decide : (1 : Int32) < (2 : Int32))).2.2.2 ?_
        show Steps p.tables e below (T122.setTop (mkF m 197 #[.val (.int i1), .val (.int i2), .val (.int i3), .val (.int i4), .val (.int i5), .val (.int (2 : Int32)), .val (.int (1 : Int32)), .val (.int (5 : Int32)), .val (.int (i1 &&& (65535 : Int32))), .val (.int (i2 &&& (65535 : Int32))), .val (.int (i3 &&& (65535 : Int32))), .val (.ref b110), .val (.ref b122_0), .val (.int (own_j0_181_0 i1))] [])) _
        refine XS.iload X122.here hx rfl (hb hby at_197) rfl ?_
        exact k
      have pre139 : ∀ t, Steps p.tables e below (T122.setTop (mkF m 216 #[.val (.int i1), .val (.int i2), .val (.int i3), .val (.int i4), .val (.int i5), .val (.int (2 : Int32)), .val (.int (1 : Int32)), .val (.int (5 : Int32)), .val (.int (i1 &&& (65535 : Int32))), .val (.int (i2 &&& (65535 : Int32))), .val (.int (i3 &&& (65535 : Int32))), .val (.ref b110), .val (.ref b122_0), .val (.int (own_j0_181_0 i1))] [(.int (own_j0_199_0 i1 i2))])) t → Steps p.tables e below (s₁.setTop (entryFrame m #[(.int i1), (.int i2), (.int i3), (.int i4), (.int i5)] maxLocals)) t := by
        by_cases hc199_132 : (own_j0_181_0 i1) = (0 : Int32)
        · have pre133 : ∀ t, Steps p.tables e below (T122.setTop (mkF m 216 #[.val (.int i1), .val (.int i2), .val (.int i3), .val (.int i4), .val (.int i5), .val (.int (2 : Int32)), .val (.int (1 : Int32)), .val (.int (5 : Int32)), .val (.int (i1 &&& (65535 : Int32))), .val (.int (i2 &&& (65535 : Int32))), .val (.int (i3 &&& (65535 : Int32))), .val (.ref b110), .val (.ref b122_0), .val (.int (own_j0_181_0 i1))] [(.int (0 : Int32))])) t → Steps p.tables e below (s₁.setTop (entryFrame m #[(.int i1), (.int i2), (.int i3), (.int i4), (.int i5)] maxLocals)) t := by
            intro t k
            refine pre131 _ ?_
            show Steps p.tables e below (T122.setTop (mkF m 199 #[.val (.int i1), .val (.int i2), .val (.int i3), .val (.int i4), .val (.int i5), .val (.int (2 : Int32)), .val (.int (1 : Int32)), .val (.int (5 : Int32)), .val (.int (i1 &&& (65535 : Int32))), .val (.int (i2 &&& (65535 : Int32))), .val (.int (i3 &&& (65535 : Int32))), .val (.ref b110), .val (.ref b122_0), .val (.int (own_j0_181_0 i1))] [(.int (own_j0_181_0 i1))])) _
            refine XS.ifYes X122.here hx rfl (pc0 := 199) (pc' := 215) rfl (hb hby at_199) rfl ((if0 _ _).trans (teq hc199_132).1) (by decide) (by decide) ?_
            show Steps p.tables e below (T122.setTop (mkF m 215 #[.val (.int i1), .val (.int i2), .val (.int i3), .val (.int i4), .val (.int i5), .val (.int (2 : Int32)), .val (.int (1 : Int32)), .val (.int (5 : Int32)), .val (.int (i1 &&& (65535 : Int32))), .val (.int (i2 &&& (65535 : Int32))), .val (.int (i3 &&& (65535 : Int32))), .val (.ref b110), .val (.ref b122_0), .val (.int (own_j0_181_0 i1))] [])) _
            refine XS.iconst X122.here hx rfl (hb hby at_215) ?_
            exact k
          exact fun t k => pre133 t (by rw [show (own_j0_199_0 i1 i2) = (0 : Int32) from (if_pos hc199_132)] at k; exact k)
        · obtain ⟨cl134, Ar134, Cq134, Sz134, Nn134, Hh134, Gg134⟩ := id f122_0
          have hin134 : ¬ ((1 : Int32) < 0 ∨ cl134.slots.size ≤ ((1 : Int32)).toNatClampNeg) := inb_of Sz134 ⟨by decide, by decide⟩
          have hat134 : cl134.slots[((1 : Int32)).toNatClampNeg]? = some (.int (nar .char (((((nar .byte ((((i2 &&& (65535 : Int32)).toUInt32 >>> ((8 : Int32) &&& 31).toUInt32).toInt32).toInt8.toInt32)) &&& (255 : Int32)) <<< ((8 : Int32) &&& 31)) ||| ((nar .byte ((i2 &&& (65535 : Int32)).toInt8.toInt32)) &&& (255 : Int32))).toUInt32.toUInt16.toUInt32.toInt32))) := Hh134.at hin134 rfl
          have pre135 : ∀ t, Steps p.tables e below (T122.setTop (mkF m 208 #[.val (.int i1), .val (.int i2), .val (.int i3), .val (.int i4), .val (.int i5), .val (.int (2 : Int32)), .val (.int (1 : Int32)), .val (.int (5 : Int32)), .val (.int (i1 &&& (65535 : Int32))), .val (.int (i2 &&& (65535 : Int32))), .val (.int (i3 &&& (65535 : Int32))), .val (.ref b110), .val (.ref b122_0), .val (.int (own_j0_181_0 i1))] [(.int (i2 &&& (65535 : Int32))), (.int (nar .char (((((nar .byte ((((i2 &&& (65535 : Int32)).toUInt32 >>> ((8 : Int32) &&& 31).toUInt32).toInt32).toInt8.toInt32)) &&& (255 : Int32)) <<< ((8 : Int32) &&& 31)) ||| ((nar .byte ((i2 &&& (65535 : Int32)).toInt8.toInt32)) &&& (255 : Int32))).toUInt32.toUInt16.toUInt32.toInt32)))])) t → Steps p.tables e below (s₁.setTop (entryFrame m #[(.int i1), (.int i2), (.int i3), (.int i4), (.int i5)] maxLocals)) t := by
            intro t k
            refine pre131 _ ?_
            show Steps p.tables e below (T122.setTop (mkF m 199 #[.val (.int i1), .val (.int i2), .val (.int i3), .val (.int i4), .val (.int i5), .val (.int (2 : Int32)), .val (.int (1 : Int32)), .val (.int (5 : Int32)), .val (.int (i1 &&& (65535 : Int32))), .val (.int (i2 &&& (65535 : Int32))), .val (.int (i3 &&& (65535 : Int32))), .val (.ref b110), .val (.ref b122_0), .val (.int (own_j0_181_0 i1))] [(.int (own_j0_181_0 i1))])) _
            refine XS.ifNo X122.here hx rfl (hb hby at_199) rfl ((if0 _ _).trans (feq hc199_132).1) ?_
            show Steps p.tables e below (T122.setTop (mkF m 202 #[.val (.int i1), .val (.int i2), .val (.int i3), .val (.int i4), .val (.int i5), .val (.int (2 : Int32)), .val (.int (1 : Int32)), .val (.int (5 : Int32)), .val (.int (i1 &&& (65535 : Int32))), .val (.int (i2 &&& (65535 : Int32))), .val (.int (i3 &&& (65535 : Int32))), .val (.ref b110), .val (.ref b122_0), .val (.int (own_j0_181_0 i1))] [])) _
            refine XS.aload X122.here hx rfl (hb hby at_202) rfl rfl ?_
            show Steps p.tables e below (T122.setTop (mkF m 204 #[.val (.int i1), .val (.int i2), .val (.int i3), .val (.int i4), .val (.int i5), .val (.int (2 : Int32)), .val (.int (1 : Int32)), .val (.int (5 : Int32)), .val (.int (i1 &&& (65535 : Int32))), .val (.int (i2 &&& (65535 : Int32))), .val (.int (i3 &&& (65535 : Int32))), .val (.ref b110), .val (.ref b122_0), .val (.int (own_j0_181_0 i1))] [(.ref b122_0)])) _
            refine XS.iconst X122.here hx rfl (hb hby at_204) ?_
            show Steps p.tables e below (T122.setTop (mkF m 205 #[.val (.int i1), .val (.int i2), .val (.int i3), .val (.int i4), .val (.int i5), .val (.int (2 : Int32)), .val (.int (1 : Int32)), .val (.int (5 : Int32)), .val (.int (i1 &&& (65535 : Int32))), .val (.int (i2 &&& (65535 : Int32))), .val (.int (i3 &&& (65535 : Int32))), .val (.ref b110), .val (.ref b122_0), .val (.int (own_j0_181_0 i1))] [(.int (1 : Int32)), (.ref b122_0)])) _
            refine X122.caload hx (j := (1 : Int32)) (v := (.int (nar .char (((((nar .byte ((((i2 &&& (65535 : Int32)).toUInt32 >>> ((8 : Int32) &&& 31).toUInt32).toInt32).toInt8.toInt32)) &&& (255 : Int32)) <<< ((8 : Int32) &&& 31)) ||| ((nar .byte ((i2 &&& (65535 : Int32)).toInt8.toInt32)) &&& (255 : Int32))).toUInt32.toUInt16.toUInt32.toInt32)))) (by exact Ar134.1) (State.isArrayOf_alike hZ.alike Ar134.2.1) Ar134.2.2 hin134 hat134 (g := (mkF m 205 #[.val (.int i1), .val (.int i2), .val (.int i3), .val (.int i4), .val (.int i5), .val (.int (2 : Int32)), .val (.int (1 : Int32)), .val (.int (5 : Int32)), .val (.int (i1 &&& (65535 : Int32))), .val (.int (i2 &&& (65535 : Int32))), .val (.int (i3 &&& (65535 : Int32))), .val (.ref b110), .val (.ref b122_0), .val (.int (own_j0_181_0 i1))] [(.int (1 : Int32)), (.ref b122_0)])) rfl rfl (hb hby at_205) _ ?_
            show Steps p.tables e below (T122.setTop (mkF m 206 #[.val (.int i1), .val (.int i2), .val (.int i3), .val (.int i4), .val (.int i5), .val (.int (2 : Int32)), .val (.int (1 : Int32)), .val (.int (5 : Int32)), .val (.int (i1 &&& (65535 : Int32))), .val (.int (i2 &&& (65535 : Int32))), .val (.int (i3 &&& (65535 : Int32))), .val (.ref b110), .val (.ref b122_0), .val (.int (own_j0_181_0 i1))] [(.int (nar .char (((((nar .byte ((((i2 &&& (65535 : Int32)).toUInt32 >>> ((8 : Int32) &&& 31).toUInt32).toInt32).toInt8.toInt32)) &&& (255 : Int32)) <<< ((8 : Int32) &&& 31)) ||| ((nar .byte ((i2 &&& (65535 : Int32)).toInt8.toInt32)) &&& (255 : Int32))).toUInt32.toUInt16.toUInt32.toInt32)))])) _
            refine XS.iload X122.here hx rfl (hb hby at_206) rfl ?_
            exact k
          by_cases hc208_136 : (nar .char (((((nar .byte ((((i2 &&& (65535 : Int32)).toUInt32 >>> ((8 : Int32) &&& 31).toUInt32).toInt32).toInt8.toInt32)) &&& (255 : Int32)) <<< ((8 : Int32) &&& 31)) ||| ((nar .byte ((i2 &&& (65535 : Int32)).toInt8.toInt32)) &&& (255 : Int32))).toUInt32.toUInt16.toUInt32.toInt32)) = (i2 &&& (65535 : Int32))
          · have pre137 : ∀ t, Steps p.tables e below (T122.setTop (mkF m 216 #[.val (.int i1), .val (.int i2), .val (.int i3), .val (.int i4), .val (.int i5), .val (.int (2 : Int32)), .val (.int (1 : Int32)), .val (.int (5 : Int32)), .val (.int (i1 &&& (65535 : Int32))), .val (.int (i2 &&& (65535 : Int32))), .val (.int (i3 &&& (65535 : Int32))), .val (.ref b110), .val (.ref b122_0), .val (.int (own_j0_181_0 i1))] [(.int (1 : Int32))])) t → Steps p.tables e below (s₁.setTop (entryFrame m #[(.int i1), (.int i2), (.int i3), (.int i4), (.int i5)] maxLocals)) t := by
              intro t k
              refine pre135 _ ?_
              show Steps p.tables e below (T122.setTop (mkF m 208 #[.val (.int i1), .val (.int i2), .val (.int i3), .val (.int i4), .val (.int i5), .val (.int (2 : Int32)), .val (.int (1 : Int32)), .val (.int (5 : Int32)), .val (.int (i1 &&& (65535 : Int32))), .val (.int (i2 &&& (65535 : Int32))), .val (.int (i3 &&& (65535 : Int32))), .val (.ref b110), .val (.ref b122_0), .val (.int (own_j0_181_0 i1))] [(.int (i2 &&& (65535 : Int32))), (.int (nar .char (((((nar .byte ((((i2 &&& (65535 : Int32)).toUInt32 >>> ((8 : Int32) &&& 31).toUInt32).toInt32).toInt8.toInt32)) &&& (255 : Int32)) <<< ((8 : Int32) &&& 31)) ||| ((nar .byte ((i2 &&& (65535 : Int32)).toInt8.toInt32)) &&& (255 : Int32))).toUInt32.toUInt16.toUInt32.toInt32)))])) _
              refine XS.icmpNo X122.here hx rfl (hb hby at_208) rfl (teq hc208_136).2 ?_
              show Steps p.tables e below (T122.setTop (mkF m 211 #[.val (.int i1), .val (.int i2), .val (.int i3), .val (.int i4), .val (.int i5), .val (.int (2 : Int32)), .val (.int (1 : Int32)), .val (.int (5 : Int32)), .val (.int (i1 &&& (65535 : Int32))), .val (.int (i2 &&& (65535 : Int32))), .val (.int (i3 &&& (65535 : Int32))), .val (.ref b110), .val (.ref b122_0), .val (.int (own_j0_181_0 i1))] [])) _
              refine XS.iconst X122.here hx rfl (hb hby at_211) ?_
              show Steps p.tables e below (T122.setTop (mkF m 212 #[.val (.int i1), .val (.int i2), .val (.int i3), .val (.int i4), .val (.int i5), .val (.int (2 : Int32)), .val (.int (1 : Int32)), .val (.int (5 : Int32)), .val (.int (i1 &&& (65535 : Int32))), .val (.int (i2 &&& (65535 : Int32))), .val (.int (i3 &&& (65535 : Int32))), .val (.ref b110), .val (.ref b122_0), .val (.int (own_j0_181_0 i1))] [(.int (1 : Int32))])) _
              refine XS.goto X122.here hx rfl (pc0 := 212) (pc' := 216) rfl (hb hby at_212) (by decide) (by decide) ?_
              exact k
            exact fun t k => pre137 t (by rw [show (own_j0_199_0 i1 i2) = (1 : Int32) from ((if_neg hc199_132).trans (if_pos hc208_136))] at k; exact k)
          · have pre138 : ∀ t, Steps p.tables e below (T122.setTop (mkF m 216 #[.val (.int i1), .val (.int i2), .val (.int i3), .val (.int i4), .val (.int i5), .val (.int (2 : Int32)), .val (.int (1 : Int32)), .val (.int (5 : Int32)), .val (.int (i1 &&& (65535 : Int32))), .val (.int (i2 &&& (65535 : Int32))), .val (.int (i3 &&& (65535 : Int32))), .val (.ref b110), .val (.ref b122_0), .val (.int (own_j0_181_0 i1))] [(.int (0 : Int32))])) t → Steps p.tables e below (s₁.setTop (entryFrame m #[(.int i1), (.int i2), (.int i3), (.int i4), (.int i5)] maxLocals)) t := by
              intro t k
              refine pre135 _ ?_
              show Steps p.tables e below (T122.setTop (mkF m 208 #[.val (.int i1), .val (.int i2), .val (.int i3), .val (.int i4), .val (.int i5), .val (.int (2 : Int32)), .val (.int (1 : Int32)), .val (.int (5 : Int32)), .val (.int (i1 &&& (65535 : Int32))), .val (.int (i2 &&& (65535 : Int32))), .val (.int (i3 &&& (65535 : Int32))), .val (.ref b110), .val (.ref b122_0), .val (.int (own_j0_181_0 i1))] [(.int (i2 &&& (65535 : Int32))), (.int (nar .char (((((nar .byte ((((i2 &&& (65535 : Int32)).toUInt32 >>> ((8 : Int32) &&& 31).toUInt32).toInt32).toInt8.toInt32)) &&& (255 : Int32)) <<< ((8 : Int32) &&& 31)) ||| ((nar .byte ((i2 &&& (65535 : Int32)).toInt8.toInt32)) &&& (255 : Int32))).toUInt32.toUInt16.toUInt32.toInt32)))])) _
              refine XS.icmpYes X122.here hx rfl (pc0 := 208) (pc' := 215) rfl (hb hby at_208) rfl (feq hc208_136).2 (by decide) (by decide) ?_
              show Steps p.tables e below (T122.setTop (mkF m 215 #[.val (.int i1), .val (.int i2), .val (.int i3), .val (.int i4), .val (.int i5), .val (.int (2 : Int32)), .val (.int (1 : Int32)), .val (.int (5 : Int32)), .val (.int (i1 &&& (65535 : Int32))), .val (.int (i2 &&& (65535 : Int32))), .val (.int (i3 &&& (65535 : Int32))), .val (.ref b110), .val (.ref b122_0), .val (.int (own_j0_181_0 i1))] [])) _
              refine XS.iconst X122.here hx rfl (hb hby at_215) ?_
              exact k
            exact fun t k => pre138 t (by rw [show (own_j0_199_0 i1 i2) = (0 : Int32) from ((if_neg hc199_132).trans (if_neg hc208_136))] at k; exact k)
      have pre140 : ∀ t, Steps p.tables e below (T122.setTop (mkF m 247 #[.val (.int i1), .val (.int i2), .val (.int i3), .val (.int i4), .val (.int i5), .val (.int (2 : Int32)), .val (.int (1 : Int32)), .val (.int (5 : Int32)), .val (.int (i1 &&& (65535 : Int32))), .val (.int (i2 &&& (65535 : Int32))), .val (.int (i3 &&& (65535 : Int32))), .val (.ref b110), .val (.ref b122_0), .val (.int (own_j0_199_0 i1 i2))] [(.int (own_j0_199_0 i1 i2))])) t → Steps p.tables e below (s₁.setTop (entryFrame m #[(.int i1), (.int i2), (.int i3), (.int i4), (.int i5)] maxLocals)) t := by
        intro t k
        refine pre139 _ ?_
        show Steps p.tables e below (T122.setTop (mkF m 216 #[.val (.int i1), .val (.int i2), .val (.int i3), .val (.int i4), .val (.int i5), .val (.int (2 : Int32)), .val (.int (1 : Int32)), .val (.int (5 : Int32)), .val (.int (i1 &&& (65535 : Int32))), .val (.int (i2 &&& (65535 : Int32))), .val (.int (i3 &&& (65535 : Int32))), .val (.ref b110), .val (.ref b122_0), .val (.int (own_j0_181_0 i1))] [(.int (own_j0_199_0 i1 i2))])) _
        refine XS.istore X122.here hx rfl (hb hby at_216) rfl (l' := #[.val (.int i1), .val (.int i2), .val (.int i3), .val (.int i4), .val (.int i5), .val (.int (2 : Int32)), .val (.int (1 : Int32)), .val (.int (5 : Int32)), .val (.int (i1 &&& (65535 : Int32))), .val (.int (i2 &&& (65535 : Int32))), .val (.int (i3 &&& (65535 : Int32))), .val (.ref b110), .val (.ref b122_0), .val (.int (own_j0_199_0 i1 i2))]) rfl ?_
        show Steps p.tables e below (T122.setTop (mkF m 218 #[.val (.int i1), .val (.int i2), .val (.int i3), .val (.int i4), .val (.int i5), .val (.int (2 : Int32)), .val (.int (1 : Int32)), .val (.int (5 : Int32)), .val (.int (i1 &&& (65535 : Int32))), .val (.int (i2 &&& (65535 : Int32))), .val (.int (i3 &&& (65535 : Int32))), .val (.ref b110), .val (.ref b122_0), .val (.int (own_j0_199_0 i1 i2))] [])) _
        refine XS.iload X122.here hx rfl (hb hby at_218) rfl ?_
        show Steps p.tables e below (T122.setTop (mkF m 220 #[.val (.int i1), .val (.int i2), .val (.int i3), .val (.int i4), .val (.int i5), .val (.int (2 : Int32)), .val (.int (1 : Int32)), .val (.int (5 : Int32)), .val (.int (i1 &&& (65535 : Int32))), .val (.int (i2 &&& (65535 : Int32))), .val (.int (i3 &&& (65535 : Int32))), .val (.ref b110), .val (.ref b122_0), .val (.int (own_j0_199_0 i1 i2))] [(.int (2 : Int32))])) _
        refine XS.iconst X122.here hx rfl (hb hby at_220) ?_
        show Steps p.tables e below (T122.setTop (mkF m 221 #[.val (.int i1), .val (.int i2), .val (.int i3), .val (.int i4), .val (.int i5), .val (.int (2 : Int32)), .val (.int (1 : Int32)), .val (.int (5 : Int32)), .val (.int (i1 &&& (65535 : Int32))), .val (.int (i2 &&& (65535 : Int32))), .val (.int (i3 &&& (65535 : Int32))), .val (.ref b110), .val (.ref b122_0), .val (.int (own_j0_199_0 i1 i2))] [(.int (2 : Int32)), (.int (2 : Int32))])) _
        refine XS.icmpYes X122.here hx rfl (pc0 := 221) (pc' := 245) rfl (hb hby at_221) rfl (flt (by decide : ¬ ((2 : Int32) < (2 : Int32)))).2.2.2 (by decide) (by decide) ?_
        show Steps p.tables e below (T122.setTop (mkF m 245 #[.val (.int i1), .val (.int i2), .val (.int i3), .val (.int i4), .val (.int i5), .val (.int (2 : Int32)), .val (.int (1 : Int32)), .val (.int (5 : Int32)), .val (.int (i1 &&& (65535 : Int32))), .val (.int (i2 &&& (65535 : Int32))), .val (.int (i3 &&& (65535 : Int32))), .val (.ref b110), .val (.ref b122_0), .val (.int (own_j0_199_0 i1 i2))] [])) _
        refine XS.iload X122.here hx rfl (hb hby at_245) rfl ?_
        exact k
      obtain ⟨fs, hr, hrun, hended, hW, hsame⟩ := X122.leave (v := some (.int (nar .boolean (own_j0_199_0 i1 i2)))) (fun h => by rw [Bd.returns] at h; cases h)
      refine ⟨_, _, pre140 _ ?_, hrun, hended, _, _, rfl, ?_, ⟨_, rfl⟩, hW, hsame.mono (by decide) (by decide)⟩
      · show Steps p.tables e below (T122.setTop (mkF m 247 #[.val (.int i1), .val (.int i2), .val (.int i3), .val (.int i4), .val (.int i5), .val (.int (2 : Int32)), .val (.int (1 : Int32)), .val (.int (5 : Int32)), .val (.int (i1 &&& (65535 : Int32))), .val (.int (i2 &&& (65535 : Int32))), .val (.int (i3 &&& (65535 : Int32))), .val (.ref b110), .val (.ref b122_0), .val (.int (own_j0_199_0 i1 i2))] [(.int (own_j0_199_0 i1 i2))])) _
        exact retN X122 hx (t := .boolean) Bd.returns (by simp) (hb hby at_247) hr
      · show Q0 Z i1 i2 i3 i4 i5 h0 n0 _ T122.heap _
        exact ⟨congrArg (fun z => some (Value.int z)) (show (own_r0 i1 i2 i3 i5) = (nar .boolean (own_j0_199_0 i1 i2)) from ((if_neg (by rw [hk2]; decide)).trans ((if_neg (by rw [hk2]; decide)).trans ((if_pos hk2).trans (if_neg (by rw [hk78]; decide)))))).symm, N122⟩
  · have pre141 : ∀ t, Steps p.tables e below (s₁.setTop (mkF m 6 #[.val (.int i1), .val (.int i2), .val (.int i3), .val (.int i4), .val (.int i5), .val (.int (3 : Int32)), .unset, .unset, .unset, .unset, .unset, .unset, .unset, .unset] [])) t → Steps p.tables e below (s₁.setTop (entryFrame m #[(.int i1), (.int i2), (.int i3), (.int i4), (.int i5)] maxLocals)) t := fun t k => pre1 t (by rw [hk2]; exact k)
    have pre142 : ∀ t, Steps p.tables e below (s₁.setTop (mkF m 12 #[.val (.int i1), .val (.int i2), .val (.int i3), .val (.int i4), .val (.int i5), .val (.int (3 : Int32)), .unset, .unset, .unset, .unset, .unset, .unset, .unset, .unset] [(.int (((i5.toUInt32 >>> ((2 : Int32) &&& 31).toUInt32).toInt32) &&& (1 : Int32)))])) t → Steps p.tables e below (s₁.setTop (entryFrame m #[(.int i1), (.int i2), (.int i3), (.int i4), (.int i5)] maxLocals)) t := by
      intro t k
      refine pre141 _ ?_
      show Steps p.tables e below (s₁.setTop (mkF m 6 #[.val (.int i1), .val (.int i2), .val (.int i3), .val (.int i4), .val (.int i5), .val (.int (3 : Int32)), .unset, .unset, .unset, .unset, .unset, .unset, .unset, .unset] [])) _
      refine XS.iload X0.here hx rfl (hb hby at_6) rfl ?_
      show Steps p.tables e below (s₁.setTop (mkF m 8 #[.val (.int i1), .val (.int i2), .val (.int i3), .val (.int i4), .val (.int i5), .val (.int (3 : Int32)), .unset, .unset, .unset, .unset, .unset, .unset, .unset, .unset] [(.int i5)])) _
      refine XS.iconst X0.here hx rfl (hb hby at_8) ?_
      show Steps p.tables e below (s₁.setTop (mkF m 9 #[.val (.int i1), .val (.int i2), .val (.int i3), .val (.int i4), .val (.int i5), .val (.int (3 : Int32)), .unset, .unset, .unset, .unset, .unset, .unset, .unset, .unset] [(.int (2 : Int32)), (.int i5)])) _
      refine XS.iushr X0.here hx rfl (hb hby at_9) rfl ?_
      show Steps p.tables e below (s₁.setTop (mkF m 10 #[.val (.int i1), .val (.int i2), .val (.int i3), .val (.int i4), .val (.int i5), .val (.int (3 : Int32)), .unset, .unset, .unset, .unset, .unset, .unset, .unset, .unset] [(.int ((i5.toUInt32 >>> ((2 : Int32) &&& 31).toUInt32).toInt32))])) _
      refine XS.iconst X0.here hx rfl (hb hby at_10) ?_
      show Steps p.tables e below (s₁.setTop (mkF m 11 #[.val (.int i1), .val (.int i2), .val (.int i3), .val (.int i4), .val (.int i5), .val (.int (3 : Int32)), .unset, .unset, .unset, .unset, .unset, .unset, .unset, .unset] [(.int (1 : Int32)), (.int ((i5.toUInt32 >>> ((2 : Int32) &&& 31).toUInt32).toInt32))])) _
      refine XS.iand X0.here hx rfl (hb hby at_11) rfl ?_
      exact k
    have pre146 : ∀ t, Steps p.tables e below (s₁.setTop (mkF m 20 #[.val (.int i1), .val (.int i2), .val (.int i3), .val (.int i4), .val (.int i5), .val (.int (3 : Int32)), .unset, .unset, .unset, .unset, .unset, .unset, .unset, .unset] [(.int (own_j0_12_0 i5))])) t → Steps p.tables e below (s₁.setTop (entryFrame m #[(.int i1), (.int i2), (.int i3), (.int i4), (.int i5)] maxLocals)) t := by
      by_cases hc12_143 : (((i5.toUInt32 >>> ((2 : Int32) &&& 31).toUInt32).toInt32) &&& (1 : Int32)) = (0 : Int32)
      · have pre144 : ∀ t, Steps p.tables e below (s₁.setTop (mkF m 20 #[.val (.int i1), .val (.int i2), .val (.int i3), .val (.int i4), .val (.int i5), .val (.int (3 : Int32)), .unset, .unset, .unset, .unset, .unset, .unset, .unset, .unset] [(.int (0 : Int32))])) t → Steps p.tables e below (s₁.setTop (entryFrame m #[(.int i1), (.int i2), (.int i3), (.int i4), (.int i5)] maxLocals)) t := by
          intro t k
          refine pre142 _ ?_
          show Steps p.tables e below (s₁.setTop (mkF m 12 #[.val (.int i1), .val (.int i2), .val (.int i3), .val (.int i4), .val (.int i5), .val (.int (3 : Int32)), .unset, .unset, .unset, .unset, .unset, .unset, .unset, .unset] [(.int (((i5.toUInt32 >>> ((2 : Int32) &&& 31).toUInt32).toInt32) &&& (1 : Int32)))])) _
          refine XS.ifYes X0.here hx rfl (pc0 := 12) (pc' := 19) rfl (hb hby at_12) rfl ((if0 _ _).trans (teq hc12_143).1) (by decide) (by decide) ?_
          show Steps p.tables e below (s₁.setTop (mkF m 19 #[.val (.int i1), .val (.int i2), .val (.int i3), .val (.int i4), .val (.int i5), .val (.int (3 : Int32)), .unset, .unset, .unset, .unset, .unset, .unset, .unset, .unset] [])) _
          refine XS.iconst X0.here hx rfl (hb hby at_19) ?_
          exact k
        exact fun t k => pre144 t (by rw [show (own_j0_12_0 i5) = (0 : Int32) from (if_pos hc12_143)] at k; exact k)
      · have pre145 : ∀ t, Steps p.tables e below (s₁.setTop (mkF m 20 #[.val (.int i1), .val (.int i2), .val (.int i3), .val (.int i4), .val (.int i5), .val (.int (3 : Int32)), .unset, .unset, .unset, .unset, .unset, .unset, .unset, .unset] [(.int (1 : Int32))])) t → Steps p.tables e below (s₁.setTop (entryFrame m #[(.int i1), (.int i2), (.int i3), (.int i4), (.int i5)] maxLocals)) t := by
          intro t k
          refine pre142 _ ?_
          show Steps p.tables e below (s₁.setTop (mkF m 12 #[.val (.int i1), .val (.int i2), .val (.int i3), .val (.int i4), .val (.int i5), .val (.int (3 : Int32)), .unset, .unset, .unset, .unset, .unset, .unset, .unset, .unset] [(.int (((i5.toUInt32 >>> ((2 : Int32) &&& 31).toUInt32).toInt32) &&& (1 : Int32)))])) _
          refine XS.ifNo X0.here hx rfl (hb hby at_12) rfl ((if0 _ _).trans (feq hc12_143).1) ?_
          show Steps p.tables e below (s₁.setTop (mkF m 15 #[.val (.int i1), .val (.int i2), .val (.int i3), .val (.int i4), .val (.int i5), .val (.int (3 : Int32)), .unset, .unset, .unset, .unset, .unset, .unset, .unset, .unset] [])) _
          refine XS.iconst X0.here hx rfl (hb hby at_15) ?_
          show Steps p.tables e below (s₁.setTop (mkF m 16 #[.val (.int i1), .val (.int i2), .val (.int i3), .val (.int i4), .val (.int i5), .val (.int (3 : Int32)), .unset, .unset, .unset, .unset, .unset, .unset, .unset, .unset] [(.int (1 : Int32))])) _
          refine XS.goto X0.here hx rfl (pc0 := 16) (pc' := 20) rfl (hb hby at_16) (by decide) (by decide) ?_
          exact k
        exact fun t k => pre145 t (by rw [show (own_j0_12_0 i5) = (1 : Int32) from (if_neg hc12_143)] at k; exact k)
    have pre147 : ∀ t, Steps p.tables e below (s₁.setTop (mkF m 22 #[.val (.int i1), .val (.int i2), .val (.int i3), .val (.int i4), .val (.int i5), .val (.int (3 : Int32)), .val (.int (own_j0_12_0 i5)), .unset, .unset, .unset, .unset, .unset, .unset, .unset] [])) t → Steps p.tables e below (s₁.setTop (entryFrame m #[(.int i1), (.int i2), (.int i3), (.int i4), (.int i5)] maxLocals)) t := by
      intro t k
      refine pre146 _ ?_
      show Steps p.tables e below (s₁.setTop (mkF m 20 #[.val (.int i1), .val (.int i2), .val (.int i3), .val (.int i4), .val (.int i5), .val (.int (3 : Int32)), .unset, .unset, .unset, .unset, .unset, .unset, .unset, .unset] [(.int (own_j0_12_0 i5))])) _
      refine XS.istore X0.here hx rfl (hb hby at_20) rfl (l' := #[.val (.int i1), .val (.int i2), .val (.int i3), .val (.int i4), .val (.int i5), .val (.int (3 : Int32)), .val (.int (own_j0_12_0 i5)), .unset, .unset, .unset, .unset, .unset, .unset, .unset]) rfl ?_
      exact k
    rcases ((own_ob0_odd i5) : (own_j0_12_0 i5) = (0 : Int32) ∨ (own_j0_12_0 i5) = (1 : Int32)) with hk148 | hk148
    · have pre149 : ∀ t, Steps p.tables e below (s₁.setTop (mkF m 22 #[.val (.int i1), .val (.int i2), .val (.int i3), .val (.int i4), .val (.int i5), .val (.int (3 : Int32)), .val (.int (0 : Int32)), .unset, .unset, .unset, .unset, .unset, .unset, .unset] [])) t → Steps p.tables e below (s₁.setTop (entryFrame m #[(.int i1), (.int i2), (.int i3), (.int i4), (.int i5)] maxLocals)) t := fun t k => pre147 t (by rw [hk148]; exact k)
      obtain ⟨T150, h150, k150, X150, e150, E150, A150, st150⟩ := newP X0 hx hZ (hw _ (List.mem_of_getElem? (i := 1) rfl)) e0 (g := (mkF m 59 #[.val (.int i1), .val (.int i2), .val (.int i3), .val (.int i4), .val (.int i5), .val (.int (3 : Int32)), .val (.int (0 : Int32)), .val (.int (6 : Int32)), .val (.int (i1 &&& (65535 : Int32))), .val (.int (i2 &&& (65535 : Int32))), .val (.int (i3 &&& (65535 : Int32))), .unset, .unset, .unset] [(.int (6 : Int32))])) rfl (hb hby at_59) rfl (by decide) (cap := 6) (by decide) (by decide) (by decide) (by decide)
      obtain ⟨b150, g150⟩ : ∃ z, z = h0.size := ⟨_, rfl⟩
      rw [← g150] at A150 st150
      have sz_b150 : h0.size ≤ b150 := Nat.le_trans (Keep.refl h0 []).1 (Nat.le_of_eq g150.symm)
      have K151 : Keep h0 h150 [] := (Keep.refl h0 []).ext E150
      have V150 : Arv Z h150 b150 k150 .byte (6 : Int32) [(.int (0 : Int32)), (.int (0 : Int32)), (.int (0 : Int32)), (.int (0 : Int32)), (.int (0 : Int32)), (.int (0 : Int32))] (.int (0 : Int32)) := (Arv.new A150 (by decide)).pad (pad_rep [] (.int (0 : Int32)) 6)
      obtain ⟨cl152, Ar152, Cq152, Sz152, Nn152, Hh152, Gg152⟩ := id V150
      have hin152 : ¬ ((0 : Int32) < 0 ∨ cl152.slots.size ≤ ((0 : Int32)).toNatClampNeg) := inb_of Sz152 ⟨by decide, by decide⟩
      obtain ⟨T152, h152, X152, e152, W152, st152⟩ := stB X150 hx hZ e150 Ar152 (j := (0 : Int32)) hin152 (g := (mkF m 77 #[.val (.int i1), .val (.int i2), .val (.int i3), .val (.int i4), .val (.int i5), .val (.int (3 : Int32)), .val (.int (0 : Int32)), .val (.int (6 : Int32)), .val (.int (i1 &&& (65535 : Int32))), .val (.int (i2 &&& (65535 : Int32))), .val (.int (i3 &&& (65535 : Int32))), .val (.ref b150), .unset, .unset] [(.int ((((i1 &&& (65535 : Int32)).toUInt32 >>> ((8 : Int32) &&& 31).toUInt32).toInt32).toInt8.toInt32)), (.int (0 : Int32)), (.ref b150)])) rfl rfl (hb hby at_77)
      have V152 : Arv Z h152 b150 k150 .byte (6 : Int32) [(.int (nar .byte ((((i1 &&& (65535 : Int32)).toUInt32 >>> ((8 : Int32) &&& 31).toUInt32).toInt32).toInt8.toInt32))), (.int (0 : Int32)), (.int (0 : Int32)), (.int (0 : Int32)), (.int (0 : Int32)), (.int (0 : Int32))] (.int (0 : Int32)) := Arv.set Ar152 Cq152 Sz152 Nn152 Hh152 Gg152 (fits_nar_byte _) W152 0 rfl (Nat.le_of_ble_eq_true rfl)
      have N152 := Fr.snoc X152 N0 (Nat.le_trans Z0 sz_b150)
      have K153 : Keep h0 h152 [] := K151.wr W152 (Or.inr sz_b150)
      obtain ⟨cl154, Ar154, Cq154, Sz154, Nn154, Hh154, Gg154⟩ := id V152
      have hin154 : ¬ ((1 : Int32) < 0 ∨ cl154.slots.size ≤ ((1 : Int32)).toNatClampNeg) := inb_of Sz154 ⟨by decide, by decide⟩
      obtain ⟨T154, h154, X154, e154, W154, st154⟩ := stB X152 hx hZ e152 Ar154 (j := (1 : Int32)) hin154 (g := (mkF m 84 #[.val (.int i1), .val (.int i2), .val (.int i3), .val (.int i4), .val (.int i5), .val (.int (3 : Int32)), .val (.int (0 : Int32)), .val (.int (6 : Int32)), .val (.int (i1 &&& (65535 : Int32))), .val (.int (i2 &&& (65535 : Int32))), .val (.int (i3 &&& (65535 : Int32))), .val (.ref b150), .unset, .unset] [(.int ((i1 &&& (65535 : Int32)).toInt8.toInt32)), (.int (1 : Int32)), (.ref b150)])) rfl rfl (hb hby at_84)
      have V154 : Arv Z h154 b150 k150 .byte (6 : Int32) [(.int (nar .byte ((((i1 &&& (65535 : Int32)).toUInt32 >>> ((8 : Int32) &&& 31).toUInt32).toInt32).toInt8.toInt32))), (.int (nar .byte ((i1 &&& (65535 : Int32)).toInt8.toInt32))), (.int (0 : Int32)), (.int (0 : Int32)), (.int (0 : Int32)), (.int (0 : Int32))] (.int (0 : Int32)) := Arv.set Ar154 Cq154 Sz154 Nn154 Hh154 Gg154 (fits_nar_byte _) W154 1 rfl (Nat.le_of_ble_eq_true rfl)
      have N154 := Fr.snoc X154 N152 (Nat.le_trans Z0 sz_b150)
      have K155 : Keep h0 h154 [] := K153.wr W154 (Or.inr sz_b150)
      obtain ⟨cl156, Ar156, Cq156, Sz156, Nn156, Hh156, Gg156⟩ := id V154
      have hin156 : ¬ ((2 : Int32) < 0 ∨ cl156.slots.size ≤ ((2 : Int32)).toNatClampNeg) := inb_of Sz156 ⟨by decide, by decide⟩
      obtain ⟨T156, h156, X156, e156, W156, st156⟩ := stB X154 hx hZ e154 Ar156 (j := (2 : Int32)) hin156 (g := (mkF m 100 #[.val (.int i1), .val (.int i2), .val (.int i3), .val (.int i4), .val (.int i5), .val (.int (3 : Int32)), .val (.int (0 : Int32)), .val (.int (6 : Int32)), .val (.int (i1 &&& (65535 : Int32))), .val (.int (i2 &&& (65535 : Int32))), .val (.int (i3 &&& (65535 : Int32))), .val (.ref b150), .unset, .unset] [(.int ((((i2 &&& (65535 : Int32)).toUInt32 >>> ((8 : Int32) &&& 31).toUInt32).toInt32).toInt8.toInt32)), (.int (2 : Int32)), (.ref b150)])) rfl rfl (hb hby at_100)
      have V156 : Arv Z h156 b150 k150 .byte (6 : Int32) [(.int (nar .byte ((((i1 &&& (65535 : Int32)).toUInt32 >>> ((8 : Int32) &&& 31).toUInt32).toInt32).toInt8.toInt32))), (.int (nar .byte ((i1 &&& (65535 : Int32)).toInt8.toInt32))), (.int (nar .byte ((((i2 &&& (65535 : Int32)).toUInt32 >>> ((8 : Int32) &&& 31).toUInt32).toInt32).toInt8.toInt32))), (.int (0 : Int32)), (.int (0 : Int32)), (.int (0 : Int32))] (.int (0 : Int32)) := Arv.set Ar156 Cq156 Sz156 Nn156 Hh156 Gg156 (fits_nar_byte _) W156 2 rfl (Nat.le_of_ble_eq_true rfl)
      have N156 := Fr.snoc X156 N154 (Nat.le_trans Z0 sz_b150)
      have K157 : Keep h0 h156 [] := K155.wr W156 (Or.inr sz_b150)
      obtain ⟨cl158, Ar158, Cq158, Sz158, Nn158, Hh158, Gg158⟩ := id V156
      have hin158 : ¬ ((3 : Int32) < 0 ∨ cl158.slots.size ≤ ((3 : Int32)).toNatClampNeg) := inb_of Sz158 ⟨by decide, by decide⟩
      obtain ⟨T158, h158, X158, e158, W158, st158⟩ := stB X156 hx hZ e156 Ar158 (j := (3 : Int32)) hin158 (g := (mkF m 107 #[.val (.int i1), .val (.int i2), .val (.int i3), .val (.int i4), .val (.int i5), .val (.int (3 : Int32)), .val (.int (0 : Int32)), .val (.int (6 : Int32)), .val (.int (i1 &&& (65535 : Int32))), .val (.int (i2 &&& (65535 : Int32))), .val (.int (i3 &&& (65535 : Int32))), .val (.ref b150), .unset, .unset] [(.int ((i2 &&& (65535 : Int32)).toInt8.toInt32)), (.int (3 : Int32)), (.ref b150)])) rfl rfl (hb hby at_107)
      have V158 : Arv Z h158 b150 k150 .byte (6 : Int32) [(.int (nar .byte ((((i1 &&& (65535 : Int32)).toUInt32 >>> ((8 : Int32) &&& 31).toUInt32).toInt32).toInt8.toInt32))), (.int (nar .byte ((i1 &&& (65535 : Int32)).toInt8.toInt32))), (.int (nar .byte ((((i2 &&& (65535 : Int32)).toUInt32 >>> ((8 : Int32) &&& 31).toUInt32).toInt32).toInt8.toInt32))), (.int (nar .byte ((i2 &&& (65535 : Int32)).toInt8.toInt32))), (.int (0 : Int32)), (.int (0 : Int32))] (.int (0 : Int32)) := Arv.set Ar158 Cq158 Sz158 Nn158 Hh158 Gg158 (fits_nar_byte _) W158 3 rfl (Nat.le_of_ble_eq_true rfl)
      have N158 := Fr.snoc X158 N156 (Nat.le_trans Z0 sz_b150)
      have K159 : Keep h0 h158 [] := K157.wr W158 (Or.inr sz_b150)
      obtain ⟨cl160, Ar160, Cq160, Sz160, Nn160, Hh160, Gg160⟩ := id V158
      have hin160 : ¬ ((4 : Int32) < 0 ∨ cl160.slots.size ≤ ((4 : Int32)).toNatClampNeg) := inb_of Sz160 ⟨by decide, by decide⟩
      obtain ⟨T160, h160, X160, e160, W160, st160⟩ := stB X158 hx hZ e158 Ar160 (j := (4 : Int32)) hin160 (g := (mkF m 123 #[.val (.int i1), .val (.int i2), .val (.int i3), .val (.int i4), .val (.int i5), .val (.int (3 : Int32)), .val (.int (0 : Int32)), .val (.int (6 : Int32)), .val (.int (i1 &&& (65535 : Int32))), .val (.int (i2 &&& (65535 : Int32))), .val (.int (i3 &&& (65535 : Int32))), .val (.ref b150), .unset, .unset] [(.int ((((i3 &&& (65535 : Int32)).toUInt32 >>> ((8 : Int32) &&& 31).toUInt32).toInt32).toInt8.toInt32)), (.int (4 : Int32)), (.ref b150)])) rfl rfl (hb hby at_123)
      have V160 : Arv Z h160 b150 k150 .byte (6 : Int32) [(.int (nar .byte ((((i1 &&& (65535 : Int32)).toUInt32 >>> ((8 : Int32) &&& 31).toUInt32).toInt32).toInt8.toInt32))), (.int (nar .byte ((i1 &&& (65535 : Int32)).toInt8.toInt32))), (.int (nar .byte ((((i2 &&& (65535 : Int32)).toUInt32 >>> ((8 : Int32) &&& 31).toUInt32).toInt32).toInt8.toInt32))), (.int (nar .byte ((i2 &&& (65535 : Int32)).toInt8.toInt32))), (.int (nar .byte ((((i3 &&& (65535 : Int32)).toUInt32 >>> ((8 : Int32) &&& 31).toUInt32).toInt32).toInt8.toInt32))), (.int (0 : Int32))] (.int (0 : Int32)) := Arv.set Ar160 Cq160 Sz160 Nn160 Hh160 Gg160 (fits_nar_byte _) W160 4 rfl (Nat.le_of_ble_eq_true rfl)
      have N160 := Fr.snoc X160 N158 (Nat.le_trans Z0 sz_b150)
      have K161 : Keep h0 h160 [] := K159.wr W160 (Or.inr sz_b150)
      obtain ⟨cl162, Ar162, Cq162, Sz162, Nn162, Hh162, Gg162⟩ := id V160
      have hin162 : ¬ ((5 : Int32) < 0 ∨ cl162.slots.size ≤ ((5 : Int32)).toNatClampNeg) := inb_of Sz162 ⟨by decide, by decide⟩
      obtain ⟨T162, h162, X162, e162, W162, st162⟩ := stB X160 hx hZ e160 Ar162 (j := (5 : Int32)) hin162 (g := (mkF m 130 #[.val (.int i1), .val (.int i2), .val (.int i3), .val (.int i4), .val (.int i5), .val (.int (3 : Int32)), .val (.int (0 : Int32)), .val (.int (6 : Int32)), .val (.int (i1 &&& (65535 : Int32))), .val (.int (i2 &&& (65535 : Int32))), .val (.int (i3 &&& (65535 : Int32))), .val (.ref b150), .unset, .unset] [(.int ((i3 &&& (65535 : Int32)).toInt8.toInt32)), (.int (5 : Int32)), (.ref b150)])) rfl rfl (hb hby at_130)
      have V162 : Arv Z h162 b150 k150 .byte (6 : Int32) [(.int (nar .byte ((((i1 &&& (65535 : Int32)).toUInt32 >>> ((8 : Int32) &&& 31).toUInt32).toInt32).toInt8.toInt32))), (.int (nar .byte ((i1 &&& (65535 : Int32)).toInt8.toInt32))), (.int (nar .byte ((((i2 &&& (65535 : Int32)).toUInt32 >>> ((8 : Int32) &&& 31).toUInt32).toInt32).toInt8.toInt32))), (.int (nar .byte ((i2 &&& (65535 : Int32)).toInt8.toInt32))), (.int (nar .byte ((((i3 &&& (65535 : Int32)).toUInt32 >>> ((8 : Int32) &&& 31).toUInt32).toInt32).toInt8.toInt32))), (.int (nar .byte ((i3 &&& (65535 : Int32)).toInt8.toInt32)))] (.int (0 : Int32)) := Arv.set Ar162 Cq162 Sz162 Nn162 Hh162 Gg162 (fits_nar_byte _) W162 5 rfl (Nat.le_of_ble_eq_true rfl)
      have N162 := Fr.snoc X162 N160 (Nat.le_trans Z0 sz_b150)
      have K163 : Keep h0 h162 [] := K161.wr W162 (Or.inr sz_b150)
      obtain ⟨_, _, ⟨T164, L164, k164, n164⟩, -, X164, ⟨Lc164, hQ164, l164, y164, z164⟩, st164⟩ := Jvm.LawKit.callS X162 hx (y := (⟨"com/example/aschenputtel/aschenputtel/values/UcaWeights", "keyCharacters", "([B)[C"⟩ : MethodName)) hown (mvT hZ (hw _ (List.mem_of_getElem? (i := 2) rfl))) (mvT hZ (hw _ (List.mem_of_getElem? (i := 3) rfl))) (mvT hZ (hw _ (List.mem_of_getElem? (i := 4) rfl))) (mvT hZ (hw _ (List.mem_of_getElem? (i := 5) rfl))) (by decide) (backOf (W := 0) (rm1f l Z a0 hw [] b150 (nar .byte ((((i1 &&& (65535 : Int32)).toUInt32 >>> ((8 : Int32) &&& 31).toUInt32).toInt32).toInt8.toInt32)) (nar .byte ((i1 &&& (65535 : Int32)).toInt8.toInt32)) (nar .byte ((((i2 &&& (65535 : Int32)).toUInt32 >>> ((8 : Int32) &&& 31).toUInt32).toInt32).toInt8.toInt32)) (nar .byte ((i2 &&& (65535 : Int32)).toInt8.toInt32)) (nar .byte ((((i3 &&& (65535 : Int32)).toUInt32 >>> ((8 : Int32) &&& 31).toUInt32).toInt32).toInt8.toInt32)) (nar .byte ((i3 &&& (65535 : Int32)).toInt8.toInt32)) k150 h162 n0 (Nat.le_trans Z0 K163.1) V162) hZ (hw _ (List.mem_of_getElem? (i := 5) rfl)) (hw _ (List.mem_of_getElem? (i := 4) rfl)) (by decide) (by decide)) (g := (mkF m 147 #[.val (.int i1), .val (.int i2), .val (.int i3), .val (.int i4), .val (.int i5), .val (.int (3 : Int32)), .val (.int (0 : Int32)), .val (.int (6 : Int32)), .val (.int (i1 &&& (65535 : Int32))), .val (.int (i2 &&& (65535 : Int32))), .val (.int (i3 &&& (65535 : Int32))), .val (.ref b150), .unset, .unset] [(.ref b150)])) rfl (by rw [hml]; rfl) (argsL := [(.ref b150)]) (rest := []) (lenOf pd_0 rfl) rfl (by show 2 * 0 + _ ≤ _; exact Nat.le_of_eq rfl) (hb hby at_147) (fun _ _ => ⟨rfl, e162, (by decide : 1 + 1 ≤ _), (by decide : 6 + 3 ≤ _)⟩)
      dsimp only [Pt.U, Pt.locs, Pt.cells, Pt.slots] at X164 l164 y164 z164 st164 hQ164
      subst l164 y164 z164
      obtain ⟨b164_0, k164_1, rfl, Nq164, Kq164, sq164_0, f164_0⟩ := hQ164
      have sz_b164_0 : h0.size ≤ b164_0 := Nat.le_trans K163.1 sq164_0
      have K165 : Keep h0 T164.heap [] := K163.trans Kq164 all0
      have N164 := Fr.app N162 Nq164
      obtain ⟨cl166, Ar166, -, Sz166, Nn166, -, -⟩ := id f164_0
      obtain ⟨cl167, Ar167, Cq167, Sz167, Nn167, Hh167, Gg167⟩ := id f164_0
      have hin167 : ¬ ((0 : Int32) < 0 ∨ cl167.slots.size ≤ ((0 : Int32)).toNatClampNeg) := inb_of Sz167 ⟨by decide, by decide⟩
      have hat167 : cl167.slots[((0 : Int32)).toNatClampNeg]? = some (.int (nar .char (((((nar .byte ((((i1 &&& (65535 : Int32)).toUInt32 >>> ((8 : Int32) &&& 31).toUInt32).toInt32).toInt8.toInt32)) &&& (255 : Int32)) <<< ((8 : Int32) &&& 31)) ||| ((nar .byte ((i1 &&& (65535 : Int32)).toInt8.toInt32)) &&& (255 : Int32))).toUInt32.toUInt16.toUInt32.toInt32))) := Hh167.at hin167 rfl
      have pre168 : ∀ t, Steps p.tables e below (T164.setTop (mkF m 181 #[.val (.int i1), .val (.int i2), .val (.int i3), .val (.int i4), .val (.int i5), .val (.int (3 : Int32)), .val (.int (0 : Int32)), .val (.int (6 : Int32)), .val (.int (i1 &&& (65535 : Int32))), .val (.int (i2 &&& (65535 : Int32))), .val (.int (i3 &&& (65535 : Int32))), .val (.ref b150), .val (.ref b164_0), .val (.int (1 : Int32))] [(.int (i1 &&& (65535 : Int32))), (.int (nar .char (((((nar .byte ((((i1 &&& (65535 : Int32)).toUInt32 >>> ((8 : Int32) &&& 31).toUInt32).toInt32).toInt8.toInt32)) &&& (255 : Int32)) <<< ((8 : Int32) &&& 31)) ||| ((nar .byte ((i1 &&& (65535 : Int32)).toInt8.toInt32)) &&& (255 : Int32))).toUInt32.toUInt16.toUInt32.toInt32)))])) t → Steps p.tables e below (s₁.setTop (entryFrame m #[(.int i1), (.int i2), (.int i3), (.int i4), (.int i5)] maxLocals)) t := by
        intro t k
        refine pre149 _ ?_
        show Steps p.tables e below (s₁.setTop (mkF m 22 #[.val (.int i1), .val (.int i2), .val (.int i3), .val (.int i4), .val (.int i5), .val (.int (3 : Int32)), .val (.int (0 : Int32)), .unset, .unset, .unset, .unset, .unset, .unset, .unset] [])) _
        refine XS.iconst X0.here hx rfl (hb hby at_22) ?_
        show Steps p.tables e below (s₁.setTop (mkF m 23 #[.val (.int i1), .val (.int i2), .val (.int i3), .val (.int i4), .val (.int i5), .val (.int (3 : Int32)), .val (.int (0 : Int32)), .unset, .unset, .unset, .unset, .unset, .unset, .unset] [(.int (2 : Int32))])) _
        refine XS.iload X0.here hx rfl (hb hby at_23) rfl ?_
        show Steps p.tables e below (s₁.setTop (mkF m 25 #[.val (.int i1), .val (.int i2), .val (.int i3), .val (.int i4), .val (.int i5), .val (.int (3 : Int32)), .val (.int (0 : Int32)), .unset, .unset, .unset, .unset, .unset, .unset, .unset] [(.int (3 : Int32)), (.int (2 : Int32))])) _
        refine XS.imul X0.here hx rfl (hb hby at_25) rfl ?_
        show Steps p.tables e below (s₁.setTop (mkF m 26 #[.val (.int i1), .val (.int i2), .val (.int i3), .val (.int i4), .val (.int i5), .val (.int (3 : Int32)), .val (.int (0 : Int32)), .unset, .unset, .unset, .unset, .unset, .unset, .unset] [(.int (6 : Int32))])) _
        refine XS.iload X0.here hx rfl (hb hby at_26) rfl ?_
        show Steps p.tables e below (s₁.setTop (mkF m 28 #[.val (.int i1), .val (.int i2), .val (.int i3), .val (.int i4), .val (.int i5), .val (.int (3 : Int32)), .val (.int (0 : Int32)), .unset, .unset, .unset, .unset, .unset, .unset, .unset] [(.int (0 : Int32)), (.int (6 : Int32))])) _
        refine XS.ifYes X0.here hx rfl (pc0 := 28) (pc' := 35) rfl (hb hby at_28) rfl ((if0 _ _).trans (teq (by decide : (0 : Int32) = (0 : Int32))).1) (by decide) (by decide) ?_
        show Steps p.tables e below (s₁.setTop (mkF m 35 #[.val (.int i1), .val (.int i2), .val (.int i3), .val (.int i4), .val (.int i5), .val (.int (3 : Int32)), .val (.int (0 : Int32)), .unset, .unset, .unset, .unset, .unset, .unset, .unset] [(.int (6 : Int32))])) _
        refine XS.iconst X0.here hx rfl (hb hby at_35) ?_
        show Steps p.tables e below (s₁.setTop (mkF m 36 #[.val (.int i1), .val (.int i2), .val (.int i3), .val (.int i4), .val (.int i5), .val (.int (3 : Int32)), .val (.int (0 : Int32)), .unset, .unset, .unset, .unset, .unset, .unset, .unset] [(.int (0 : Int32)), (.int (6 : Int32))])) _
        refine XS.iadd X0.here hx rfl (hb hby at_36) rfl ?_
        show Steps p.tables e below (s₁.setTop (mkF m 37 #[.val (.int i1), .val (.int i2), .val (.int i3), .val (.int i4), .val (.int i5), .val (.int (3 : Int32)), .val (.int (0 : Int32)), .unset, .unset, .unset, .unset, .unset, .unset, .unset] [(.int (6 : Int32))])) _
        refine XS.istore X0.here hx rfl (hb hby at_37) rfl (l' := #[.val (.int i1), .val (.int i2), .val (.int i3), .val (.int i4), .val (.int i5), .val (.int (3 : Int32)), .val (.int (0 : Int32)), .val (.int (6 : Int32)), .unset, .unset, .unset, .unset, .unset, .unset]) rfl ?_
        show Steps p.tables e below (s₁.setTop (mkF m 39 #[.val (.int i1), .val (.int i2), .val (.int i3), .val (.int i4), .val (.int i5), .val (.int (3 : Int32)), .val (.int (0 : Int32)), .val (.int (6 : Int32)), .unset, .unset, .unset, .unset, .unset, .unset] [])) _
        refine XS.iloadN X0.here hx rfl (hb hby at_39) rfl ?_
        show Steps p.tables e below (s₁.setTop (mkF m 40 #[.val (.int i1), .val (.int i2), .val (.int i3), .val (.int i4), .val (.int i5), .val (.int (3 : Int32)), .val (.int (0 : Int32)), .val (.int (6 : Int32)), .unset, .unset, .unset, .unset, .unset, .unset] [(.int i1)])) _
        refine X0.ldcInt hx hown (mvT hZ (hw _ (List.mem_of_getElem? (i := 0) rfl))) (g := (mkF m 40 #[.val (.int i1), .val (.int i2), .val (.int i3), .val (.int i4), .val (.int i5), .val (.int (3 : Int32)), .val (.int (0 : Int32)), .val (.int (6 : Int32)), .unset, .unset, .unset, .unset, .unset, .unset] [(.int i1)])) rfl (hb hby at_40) _ ?_
        show Steps p.tables e below (s₁.setTop (mkF m 42 #[.val (.int i1), .val (.int i2), .val (.int i3), .val (.int i4), .val (.int i5), .val (.int (3 : Int32)), .val (.int (0 : Int32)), .val (.int (6 : Int32)), .unset, .unset, .unset, .unset, .unset, .unset] [(.int (65535 : Int32)), (.int i1)])) _
        refine XS.iand X0.here hx rfl (hb hby at_42) rfl ?_
        show Steps p.tables e below (s₁.setTop (mkF m 43 #[.val (.int i1), .val (.int i2), .val (.int i3), .val (.int i4), .val (.int i5), .val (.int (3 : Int32)), .val (.int (0 : Int32)), .val (.int (6 : Int32)), .unset, .unset, .unset, .unset, .unset, .unset] [(.int (i1 &&& (65535 : Int32)))])) _
        refine XS.istore X0.here hx rfl (hb hby at_43) rfl (l' := #[.val (.int i1), .val (.int i2), .val (.int i3), .val (.int i4), .val (.int i5), .val (.int (3 : Int32)), .val (.int (0 : Int32)), .val (.int (6 : Int32)), .val (.int (i1 &&& (65535 : Int32))), .unset, .unset, .unset, .unset, .unset]) rfl ?_
        show Steps p.tables e below (s₁.setTop (mkF m 45 #[.val (.int i1), .val (.int i2), .val (.int i3), .val (.int i4), .val (.int i5), .val (.int (3 : Int32)), .val (.int (0 : Int32)), .val (.int (6 : Int32)), .val (.int (i1 &&& (65535 : Int32))), .unset, .unset, .unset, .unset, .unset] [])) _
        refine XS.iloadN X0.here hx rfl (hb hby at_45) rfl ?_
        show Steps p.tables e below (s₁.setTop (mkF m 46 #[.val (.int i1), .val (.int i2), .val (.int i3), .val (.int i4), .val (.int i5), .val (.int (3 : Int32)), .val (.int (0 : Int32)), .val (.int (6 : Int32)), .val (.int (i1 &&& (65535 : Int32))), .unset, .unset, .unset, .unset, .unset] [(.int i2)])) _
        refine X0.ldcInt hx hown (mvT hZ (hw _ (List.mem_of_getElem? (i := 0) rfl))) (g := (mkF m 46 #[.val (.int i1), .val (.int i2), .val (.int i3), .val (.int i4), .val (.int i5), .val (.int (3 : Int32)), .val (.int (0 : Int32)), .val (.int (6 : Int32)), .val (.int (i1 &&& (65535 : Int32))), .unset, .unset, .unset, .unset, .unset] [(.int i2)])) rfl (hb hby at_46) _ ?_
        show Steps p.tables e below (s₁.setTop (mkF m 48 #[.val (.int i1), .val (.int i2), .val (.int i3), .val (.int i4), .val (.int i5), .val (.int (3 : Int32)), .val (.int (0 : Int32)), .val (.int (6 : Int32)), .val (.int (i1 &&& (65535 : Int32))), .unset, .unset, .unset, .unset, .unset] [(.int (65535 : Int32)), (.int i2)])) _
        refine XS.iand X0.here hx rfl (hb hby at_48) rfl ?_
        show Steps p.tables e below (s₁.setTop (mkF m 49 #[.val (.int i1), .val (.int i2), .val (.int i3), .val (.int i4), .val (.int i5), .val (.int (3 : Int32)), .val (.int (0 : Int32)), .val (.int (6 : Int32)), .val (.int (i1 &&& (65535 : Int32))), .unset, .unset, .unset, .unset, .unset] [(.int (i2 &&& (65535 : Int32)))])) _
        refine XS.istore X0.here hx rfl (hb hby at_49) rfl (l' := #[.val (.int i1), .val (.int i2), .val (.int i3), .val (.int i4), .val (.int i5), .val (.int (3 : Int32)), .val (.int (0 : Int32)), .val (.int (6 : Int32)), .val (.int (i1 &&& (65535 : Int32))), .val (.int (i2 &&& (65535 : Int32))), .unset, .unset, .unset, .unset]) rfl ?_
        show Steps p.tables e below (s₁.setTop (mkF m 51 #[.val (.int i1), .val (.int i2), .val (.int i3), .val (.int i4), .val (.int i5), .val (.int (3 : Int32)), .val (.int (0 : Int32)), .val (.int (6 : Int32)), .val (.int (i1 &&& (65535 : Int32))), .val (.int (i2 &&& (65535 : Int32))), .unset, .unset, .unset, .unset] [])) _
        refine XS.iloadN X0.here hx rfl (hb hby at_51) rfl ?_
        show Steps p.tables e below (s₁.setTop (mkF m 52 #[.val (.int i1), .val (.int i2), .val (.int i3), .val (.int i4), .val (.int i5), .val (.int (3 : Int32)), .val (.int (0 : Int32)), .val (.int (6 : Int32)), .val (.int (i1 &&& (65535 : Int32))), .val (.int (i2 &&& (65535 : Int32))), .unset, .unset, .unset, .unset] [(.int i3)])) _
        refine X0.ldcInt hx hown (mvT hZ (hw _ (List.mem_of_getElem? (i := 0) rfl))) (g := (mkF m 52 #[.val (.int i1), .val (.int i2), .val (.int i3), .val (.int i4), .val (.int i5), .val (.int (3 : Int32)), .val (.int (0 : Int32)), .val (.int (6 : Int32)), .val (.int (i1 &&& (65535 : Int32))), .val (.int (i2 &&& (65535 : Int32))), .unset, .unset, .unset, .unset] [(.int i3)])) rfl (hb hby at_52) _ ?_
        show Steps p.tables e below (s₁.setTop (mkF m 54 #[.val (.int i1), .val (.int i2), .val (.int i3), .val (.int i4), .val (.int i5), .val (.int (3 : Int32)), .val (.int (0 : Int32)), .val (.int (6 : Int32)), .val (.int (i1 &&& (65535 : Int32))), .val (.int (i2 &&& (65535 : Int32))), .unset, .unset, .unset, .unset] [(.int (65535 : Int32)), (.int i3)])) _
        refine XS.iand X0.here hx rfl (hb hby at_54) rfl ?_
        show Steps p.tables e below (s₁.setTop (mkF m 55 #[.val (.int i1), .val (.int i2), .val (.int i3), .val (.int i4), .val (.int i5), .val (.int (3 : Int32)), .val (.int (0 : Int32)), .val (.int (6 : Int32)), .val (.int (i1 &&& (65535 : Int32))), .val (.int (i2 &&& (65535 : Int32))), .unset, .unset, .unset, .unset] [(.int (i3 &&& (65535 : Int32)))])) _
        refine XS.istore X0.here hx rfl (hb hby at_55) rfl (l' := #[.val (.int i1), .val (.int i2), .val (.int i3), .val (.int i4), .val (.int i5), .val (.int (3 : Int32)), .val (.int (0 : Int32)), .val (.int (6 : Int32)), .val (.int (i1 &&& (65535 : Int32))), .val (.int (i2 &&& (65535 : Int32))), .val (.int (i3 &&& (65535 : Int32))), .unset, .unset, .unset]) rfl ?_
        show Steps p.tables e below (s₁.setTop (mkF m 57 #[.val (.int i1), .val (.int i2), .val (.int i3), .val (.int i4), .val (.int i5), .val (.int (3 : Int32)), .val (.int (0 : Int32)), .val (.int (6 : Int32)), .val (.int (i1 &&& (65535 : Int32))), .val (.int (i2 &&& (65535 : Int32))), .val (.int (i3 &&& (65535 : Int32))), .unset, .unset, .unset] [])) _
        refine XS.iload X0.here hx rfl (hb hby at_57) rfl ?_
        show Steps p.tables e below (s₁.setTop (mkF m 59 #[.val (.int i1), .val (.int i2), .val (.int i3), .val (.int i4), .val (.int i5), .val (.int (3 : Int32)), .val (.int (0 : Int32)), .val (.int (6 : Int32)), .val (.int (i1 &&& (65535 : Int32))), .val (.int (i2 &&& (65535 : Int32))), .val (.int (i3 &&& (65535 : Int32))), .unset, .unset, .unset] [(.int (6 : Int32))])) _
        refine st150 _ ?_
        show Steps p.tables e below (T150.setTop (mkF m 61 #[.val (.int i1), .val (.int i2), .val (.int i3), .val (.int i4), .val (.int i5), .val (.int (3 : Int32)), .val (.int (0 : Int32)), .val (.int (6 : Int32)), .val (.int (i1 &&& (65535 : Int32))), .val (.int (i2 &&& (65535 : Int32))), .val (.int (i3 &&& (65535 : Int32))), .unset, .unset, .unset] [(.ref b150)])) _
        refine XS.astore X150.here hx rfl (hb hby at_61) rfl rfl (l' := #[.val (.int i1), .val (.int i2), .val (.int i3), .val (.int i4), .val (.int i5), .val (.int (3 : Int32)), .val (.int (0 : Int32)), .val (.int (6 : Int32)), .val (.int (i1 &&& (65535 : Int32))), .val (.int (i2 &&& (65535 : Int32))), .val (.int (i3 &&& (65535 : Int32))), .val (.ref b150), .unset, .unset]) rfl ?_
        show Steps p.tables e below (T150.setTop (mkF m 63 #[.val (.int i1), .val (.int i2), .val (.int i3), .val (.int i4), .val (.int i5), .val (.int (3 : Int32)), .val (.int (0 : Int32)), .val (.int (6 : Int32)), .val (.int (i1 &&& (65535 : Int32))), .val (.int (i2 &&& (65535 : Int32))), .val (.int (i3 &&& (65535 : Int32))), .val (.ref b150), .unset, .unset] [])) _
        refine XS.iload X150.here hx rfl (hb hby at_63) rfl ?_
        show Steps p.tables e below (T150.setTop (mkF m 65 #[.val (.int i1), .val (.int i2), .val (.int i3), .val (.int i4), .val (.int i5), .val (.int (3 : Int32)), .val (.int (0 : Int32)), .val (.int (6 : Int32)), .val (.int (i1 &&& (65535 : Int32))), .val (.int (i2 &&& (65535 : Int32))), .val (.int (i3 &&& (65535 : Int32))), .val (.ref b150), .unset, .unset] [(.int (3 : Int32))])) _
        refine XS.ifNo X150.here hx rfl (hb hby at_65) rfl ((if0 _ _).trans (tlt (by decide : (0 : Int32) < (3 : Int32))).2.2.2) ?_
        show Steps p.tables e below (T150.setTop (mkF m 68 #[.val (.int i1), .val (.int i2), .val (.int i3), .val (.int i4), .val (.int i5), .val (.int (3 : Int32)), .val (.int (0 : Int32)), .val (.int (6 : Int32)), .val (.int (i1 &&& (65535 : Int32))), .val (.int (i2 &&& (65535 : Int32))), .val (.int (i3 &&& (65535 : Int32))), .val (.ref b150), .unset, .unset] [])) _
        refine XS.aload X150.here hx rfl (hb hby at_68) rfl rfl ?_
        show Steps p.tables e below (T150.setTop (mkF m 70 #[.val (.int i1), .val (.int i2), .val (.int i3), .val (.int i4), .val (.int i5), .val (.int (3 : Int32)), .val (.int (0 : Int32)), .val (.int (6 : Int32)), .val (.int (i1 &&& (65535 : Int32))), .val (.int (i2 &&& (65535 : Int32))), .val (.int (i3 &&& (65535 : Int32))), .val (.ref b150), .unset, .unset] [(.ref b150)])) _
        refine XS.iconst X150.here hx rfl (hb hby at_70) ?_
        show Steps p.tables e below (T150.setTop (mkF m 71 #[.val (.int i1), .val (.int i2), .val (.int i3), .val (.int i4), .val (.int i5), .val (.int (3 : Int32)), .val (.int (0 : Int32)), .val (.int (6 : Int32)), .val (.int (i1 &&& (65535 : Int32))), .val (.int (i2 &&& (65535 : Int32))), .val (.int (i3 &&& (65535 : Int32))), .val (.ref b150), .unset, .unset] [(.int (0 : Int32)), (.ref b150)])) _
        refine XS.iload X150.here hx rfl (hb hby at_71) rfl ?_
        show Steps p.tables e below (T150.setTop (mkF m 73 #[.val (.int i1), .val (.int i2), .val (.int i3), .val (.int i4), .val (.int i5), .val (.int (3 : Int32)), .val (.int (0 : Int32)), .val (.int (6 : Int32)), .val (.int (i1 &&& (65535 : Int32))), .val (.int (i2 &&& (65535 : Int32))), .val (.int (i3 &&& (65535 : Int32))), .val (.ref b150), .unset, .unset] [(.int (i1 &&& (65535 : Int32))), (.int (0 : Int32)), (.ref b150)])) _
        refine XS.bipush X150.here hx rfl (hb hby at_73) ?_
        show Steps p.tables e below (T150.setTop (mkF m 75 #[.val (.int i1), .val (.int i2), .val (.int i3), .val (.int i4), .val (.int i5), .val (.int (3 : Int32)), .val (.int (0 : Int32)), .val (.int (6 : Int32)), .val (.int (i1 &&& (65535 : Int32))), .val (.int (i2 &&& (65535 : Int32))), .val (.int (i3 &&& (65535 : Int32))), .val (.ref b150), .unset, .unset] [(.int (8 : Int32)), (.int (i1 &&& (65535 : Int32))), (.int (0 : Int32)), (.ref b150)])) _
        refine XS.iushr X150.here hx rfl (hb hby at_75) rfl ?_
        show Steps p.tables e below (T150.setTop (mkF m 76 #[.val (.int i1), .val (.int i2), .val (.int i3), .val (.int i4), .val (.int i5), .val (.int (3 : Int32)), .val (.int (0 : Int32)), .val (.int (6 : Int32)), .val (.int (i1 &&& (65535 : Int32))), .val (.int (i2 &&& (65535 : Int32))), .val (.int (i3 &&& (65535 : Int32))), .val (.ref b150), .unset, .unset] [(.int (((i1 &&& (65535 : Int32)).toUInt32 >>> ((8 : Int32) &&& 31).toUInt32).toInt32)), (.int (0 : Int32)), (.ref b150)])) _
        refine XS.i2b X150.here hx rfl (hb hby at_76) rfl ?_
        show Steps p.tables e below (T150.setTop (mkF m 77 #[.val (.int i1), .val (.int i2), .val (.int i3), .val (.int i4), .val (.int i5), .val (.int (3 : Int32)), .val (.int (0 : Int32)), .val (.int (6 : Int32)), .val (.int (i1 &&& (65535 : Int32))), .val (.int (i2 &&& (65535 : Int32))), .val (.int (i3 &&& (65535 : Int32))), .val (.ref b150), .unset, .unset] [(.int ((((i1 &&& (65535 : Int32)).toUInt32 >>> ((8 : Int32) &&& 31).toUInt32).toInt32).toInt8.toInt32)), (.int (0 : Int32)), (.ref b150)])) _
        refine st152 _ ?_
        show Steps p.tables e below (T152.setTop (mkF m 78 #[.val (.int i1), .val (.int i2), .val (.int i3), .val (.int i4), .val (.int i5), .val (.int (3 : Int32)), .val (.int (0 : Int32)), .val (.int (6 : Int32)), .val (.int (i1 &&& (65535 : Int32))), .val (.int (i2 &&& (65535 : Int32))), .val (.int (i3 &&& (65535 : Int32))), .val (.ref b150), .unset, .unset] [])) _
        refine XS.aload X152.here hx rfl (hb hby at_78) rfl rfl ?_
        show Steps p.tables e below (T152.setTop (mkF m 80 #[.val (.int i1), .val (.int i2), .val (.int i3), .val (.int i4), .val (.int i5), .val (.int (3 : Int32)), .val (.int (0 : Int32)), .val (.int (6 : Int32)), .val (.int (i1 &&& (65535 : Int32))), .val (.int (i2 &&& (65535 : Int32))), .val (.int (i3 &&& (65535 : Int32))), .val (.ref b150), .unset, .unset] [(.ref b150)])) _
        refine XS.iconst X152.here hx rfl (hb hby at_80) ?_
        show Steps p.tables e below (T152.setTop (mkF m 81 #[.val (.int i1), .val (.int i2), .val (.int i3), .val (.int i4), .val (.int i5), .val (.int (3 : Int32)), .val (.int (0 : Int32)), .val (.int (6 : Int32)), .val (.int (i1 &&& (65535 : Int32))), .val (.int (i2 &&& (65535 : Int32))), .val (.int (i3 &&& (65535 : Int32))), .val (.ref b150), .unset, .unset] [(.int (1 : Int32)), (.ref b150)])) _
        refine XS.iload X152.here hx rfl (hb hby at_81) rfl ?_
        show Steps p.tables e below (T152.setTop (mkF m 83 #[.val (.int i1), .val (.int i2), .val (.int i3), .val (.int i4), .val (.int i5), .val (.int (3 : Int32)), .val (.int (0 : Int32)), .val (.int (6 : Int32)), .val (.int (i1 &&& (65535 : Int32))), .val (.int (i2 &&& (65535 : Int32))), .val (.int (i3 &&& (65535 : Int32))), .val (.ref b150), .unset, .unset] [(.int (i1 &&& (65535 : Int32))), (.int (1 : Int32)), (.ref b150)])) _
        refine XS.i2b X152.here hx rfl (hb hby at_83) rfl ?_
        show Steps p.tables e below (T152.setTop (mkF m 84 #[.val (.int i1), .val (.int i2), .val (.int i3), .val (.int i4), .val (.int i5), .val (.int (3 : Int32)), .val (.int (0 : Int32)), .val (.int (6 : Int32)), .val (.int (i1 &&& (65535 : Int32))), .val (.int (i2 &&& (65535 : Int32))), .val (.int (i3 &&& (65535 : Int32))), .val (.ref b150), .unset, .unset] [(.int ((i1 &&& (65535 : Int32)).toInt8.toInt32)), (.int (1 : Int32)), (.ref b150)])) _
        refine st154 _ ?_
        show Steps p.tables e below (T154.setTop (mkF m 85 #[.val (.int i1), .val (.int i2), .val (.int i3), .val (.int i4), .val (.int i5), .val (.int (3 : Int32)), .val (.int (0 : Int32)), .val (.int (6 : Int32)), .val (.int (i1 &&& (65535 : Int32))), .val (.int (i2 &&& (65535 : Int32))), .val (.int (i3 &&& (65535 : Int32))), .val (.ref b150), .unset, .unset] [])) _
        refine XS.iload X154.here hx rfl (hb hby at_85) rfl ?_
        show Steps p.tables e below (T154.setTop (mkF m 87 #[.val (.int i1), .val (.int i2), .val (.int i3), .val (.int i4), .val (.int i5), .val (.int (3 : Int32)), .val (.int (0 : Int32)), .val (.int (6 : Int32)), .val (.int (i1 &&& (65535 : Int32))), .val (.int (i2 &&& (65535 : Int32))), .val (.int (i3 &&& (65535 : Int32))), .val (.ref b150), .unset, .unset] [(.int (3 : Int32))])) _
        refine XS.iconst X154.here hx rfl (hb hby at_87) ?_
        show Steps p.tables e below (T154.setTop (mkF m 88 #[.val (.int i1), .val (.int i2), .val (.int i3), .val (.int i4), .val (.int i5), .val (.int (3 : Int32)), .val (.int (0 : Int32)), .val (.int (6 : Int32)), .val (.int (i1 &&& (65535 : Int32))), .val (.int (i2 &&& (65535 : Int32))), .val (.int (i3 &&& (65535 : Int32))), .val (.ref b150), .unset, .unset] [(.int (1 : Int32)), (.int (3 : Int32))])) _
        refine XS.icmpNo X154.here hx rfl (hb hby at_88) rfl (tlt (by decide : (1 : Int32) < (3 : Int32))).2.2.2 ?_
        show Steps p.tables e below (T154.setTop (mkF m 91 #[.val (.int i1), .val (.int i2), .val (.int i3), .val (.int i4), .val (.int i5), .val (.int (3 : Int32)), .val (.int (0 : Int32)), .val (.int (6 : Int32)), .val (.int (i1 &&& (65535 : Int32))), .val (.int (i2 &&& (65535 : Int32))), .val (.int (i3 &&& (65535 : Int32))), .val (.ref b150), .unset, .unset] [])) _
        refine XS.aload X154.here hx rfl (hb hby at_91) rfl rfl ?_
        show Steps p.tables e below (T154.setTop (mkF m 93 #[.val (.int i1), .val (.int i2), .val (.int i3), .val (.int i4), .val (.int i5), .val (.int (3 : Int32)), .val (.int (0 : Int32)), .val (.int (6 : Int32)), .val (.int (i1 &&& (65535 : Int32))), .val (.int (i2 &&& (65535 : Int32))), .val (.int (i3 &&& (65535 : Int32))), .val (.ref b150), .unset, .unset] [(.ref b150)])) _
        refine XS.iconst X154.here hx rfl (hb hby at_93) ?_
        show Steps p.tables e below (T154.setTop (mkF m 94 #[.val (.int i1), .val (.int i2), .val (.int i3), .val (.int i4), .val (.int i5), .val (.int (3 : Int32)), .val (.int (0 : Int32)), .val (.int (6 : Int32)), .val (.int (i1 &&& (65535 : Int32))), .val (.int (i2 &&& (65535 : Int32))), .val (.int (i3 &&& (65535 : Int32))), .val (.ref b150), .unset, .unset] [(.int (2 : Int32)), (.ref b150)])) _
        refine XS.iload X154.here hx rfl (hb hby at_94) rfl ?_
        show Steps p.tables e below (T154.setTop (mkF m 96 #[.val (.int i1), .val (.int i2), .val (.int i3), .val (.int i4), .val (.int i5), .val (.int (3 : Int32)), .val (.int (0 : Int32)), .val (.int (6 : Int32)), .val (.int (i1 &&& (65535 : Int32))), .val (.int (i2 &&& (65535 : Int32))), .val (.int (i3 &&& (65535 : Int32))), .val (.ref b150), .unset, .unset] [(.int (i2 &&& (65535 : Int32))), (.int (2 : Int32)), (.ref b150)])) _
        refine XS.bipush X154.here hx rfl (hb hby at_96) ?_
        show Steps p.tables e below (T154.setTop (mkF m 98 #[.val (.int i1), .val (.int i2), .val (.int i3), .val (.int i4), .val (.int i5), .val (.int (3 : Int32)), .val (.int (0 : Int32)), .val (.int (6 : Int32)), .val (.int (i1 &&& (65535 : Int32))), .val (.int (i2 &&& (65535 : Int32))), .val (.int (i3 &&& (65535 : Int32))), .val (.ref b150), .unset, .unset] [(.int (8 : Int32)), (.int (i2 &&& (65535 : Int32))), (.int (2 : Int32)), (.ref b150)])) _
        refine XS.iushr X154.here hx rfl (hb hby at_98) rfl ?_
        show Steps p.tables e below (T154.setTop (mkF m 99 #[.val (.int i1), .val (.int i2), .val (.int i3), .val (.int i4), .val (.int i5), .val (.int (3 : Int32)), .val (.int (0 : Int32)), .val (.int (6 : Int32)), .val (.int (i1 &&& (65535 : Int32))), .val (.int (i2 &&& (65535 : Int32))), .val (.int (i3 &&& (65535 : Int32))), .val (.ref b150), .unset, .unset] [(.int (((i2 &&& (65535 : Int32)).toUInt32 >>> ((8 : Int32) &&& 31).toUInt32).toInt32)), (.int (2 : Int32)), (.ref b150)])) _
        refine XS.i2b X154.here hx rfl (hb hby at_99) rfl ?_
        show Steps p.tables e below (T154.setTop (mkF m 100 #[.val (.int i1), .val (.int i2), .val (.int i3), .val (.int i4), .val (.int i5), .val (.int (3 : Int32)), .val (.int (0 : Int32)), .val (.int (6 : Int32)), .val (.int (i1 &&& (65535 : Int32))), .val (.int (i2 &&& (65535 : Int32))), .val (.int (i3 &&& (65535 : Int32))), .val (.ref b150), .unset, .unset] [(.int ((((i2 &&& (65535 : Int32)).toUInt32 >>> ((8 : Int32) &&& 31).toUInt32).toInt32).toInt8.toInt32)), (.int (2 : Int32)), (.ref b150)])) _
        refine st156 _ ?_
        show Steps p.tables e below (T156.setTop (mkF m 101 #[.val (.int i1), .val (.int i2), .val (.int i3), .val (.int i4), .val (.int i5), .val (.int (3 : Int32)), .val (.int (0 : Int32)), .val (.int (6 : Int32)), .val (.int (i1 &&& (65535 : Int32))), .val (.int (i2 &&& (65535 : Int32))), .val (.int (i3 &&& (65535 : Int32))), .val (.ref b150), .unset, .unset] [])) _
        refine XS.aload X156.here hx rfl (hb hby at_101) rfl rfl ?_
        show Steps p.tables e below (T156.setTop (mkF m 103 #[.val (.int i1), .val (.int i2), .val (.int i3), .val (.int i4), .val (.int i5), .val (.int (3 : Int32)), .val (.int (0 : Int32)), .val (.int (6 : Int32)), .val (.int (i1 &&& (65535 : Int32))), .val (.int (i2 &&& (65535 : Int32))), .val (.int (i3 &&& (65535 : Int32))), .val (.ref b150), .unset, .unset] [(.ref b150)])) _
        refine XS.iconst X156.here hx rfl (hb hby at_103) ?_
        show Steps p.tables e below (T156.setTop (mkF m 104 #[.val (.int i1), .val (.int i2), .val (.int i3), .val (.int i4), .val (.int i5), .val (.int (3 : Int32)), .val (.int (0 : Int32)), .val (.int (6 : Int32)), .val (.int (i1 &&& (65535 : Int32))), .val (.int (i2 &&& (65535 : Int32))), .val (.int (i3 &&& (65535 : Int32))), .val (.ref b150), .unset, .unset] [(.int (3 : Int32)), (.ref b150)])) _
        refine XS.iload X156.here hx rfl (hb hby at_104) rfl ?_
        show Steps p.tables e below (T156.setTop (mkF m 106 #[.val (.int i1), .val (.int i2), .val (.int i3), .val (.int i4), .val (.int i5), .val (.int (3 : Int32)), .val (.int (0 : Int32)), .val (.int (6 : Int32)), .val (.int (i1 &&& (65535 : Int32))), .val (.int (i2 &&& (65535 : Int32))), .val (.int (i3 &&& (65535 : Int32))), .val (.ref b150), .unset, .unset] [(.int (i2 &&& (65535 : Int32))), (.int (3 : Int32)), (.ref b150)])) _
        refine XS.i2b X156.here hx rfl (hb hby at_106) rfl ?_
        show Steps p.tables e below (T156.setTop (mkF m 107 #[.val (.int i1), .val (.int i2), .val (.int i3), .val (.int i4), .val (.int i5), .val (.int (3 : Int32)), .val (.int (0 : Int32)), .val (.int (6 : Int32)), .val (.int (i1 &&& (65535 : Int32))), .val (.int (i2 &&& (65535 : Int32))), .val (.int (i3 &&& (65535 : Int32))), .val (.ref b150), .unset, .unset] [(.int ((i2 &&& (65535 : Int32)).toInt8.toInt32)), (.int (3 : Int32)), (.ref b150)])) _
        refine st158 _ ?_
        show Steps p.tables e below (T158.setTop (mkF m 108 #[.val (.int i1), .val (.int i2), .val (.int i3), .val (.int i4), .val (.int i5), .val (.int (3 : Int32)), .val (.int (0 : Int32)), .val (.int (6 : Int32)), .val (.int (i1 &&& (65535 : Int32))), .val (.int (i2 &&& (65535 : Int32))), .val (.int (i3 &&& (65535 : Int32))), .val (.ref b150), .unset, .unset] [])) _
        refine XS.iload X158.here hx rfl (hb hby at_108) rfl ?_
        show Steps p.tables e below (T158.setTop (mkF m 110 #[.val (.int i1), .val (.int i2), .val (.int i3), .val (.int i4), .val (.int i5), .val (.int (3 : Int32)), .val (.int (0 : Int32)), .val (.int (6 : Int32)), .val (.int (i1 &&& (65535 : Int32))), .val (.int (i2 &&& (65535 : Int32))), .val (.int (i3 &&& (65535 : Int32))), .val (.ref b150), .unset, .unset] [(.int (3 : Int32))])) _
        refine XS.iconst X158.here hx rfl (hb hby at_110) ?_
        show Steps p.tables e below (T158.setTop (mkF m 111 #[.val (.int i1), .val (.int i2), .val (.int i3), .val (.int i4), .val (.int i5), .val (.int (3 : Int32)), .val (.int (0 : Int32)), .val (.int (6 : Int32)), .val (.int (i1 &&& (65535 : Int32))), .val (.int (i2 &&& (65535 : Int32))), .val (.int (i3 &&& (65535 : Int32))), .val (.ref b150), .unset, .unset] [(.int (2 : Int32)), (.int (3 : Int32))])) _
        refine XS.icmpNo X158.here hx rfl (hb hby at_111) rfl (tlt (by decide : (2 : Int32) < (3 : Int32))).2.2.2 ?_
        show Steps p.tables e below (T158.setTop (mkF m 114 #[.val (.int i1), .val (.int i2), .val (.int i3), .val (.int i4), .val (.int i5), .val (.int (3 : Int32)), .val (.int (0 : Int32)), .val (.int (6 : Int32)), .val (.int (i1 &&& (65535 : Int32))), .val (.int (i2 &&& (65535 : Int32))), .val (.int (i3 &&& (65535 : Int32))), .val (.ref b150), .unset, .unset] [])) _
        refine XS.aload X158.here hx rfl (hb hby at_114) rfl rfl ?_
        show Steps p.tables e below (T158.setTop (mkF m 116 #[.val (.int i1), .val (.int i2), .val (.int i3), .val (.int i4), .val (.int i5), .val (.int (3 : Int32)), .val (.int (0 : Int32)), .val (.int (6 : Int32)), .val (.int (i1 &&& (65535 : Int32))), .val (.int (i2 &&& (65535 : Int32))), .val (.int (i3 &&& (65535 : Int32))), .val (.ref b150), .unset, .unset] [(.ref b150)])) _
        refine XS.iconst X158.here hx rfl (hb hby at_116) ?_
        show Steps p.tables e below (T158.setTop (mkF m 117 #[.val (.int i1), .val (.int i2), .val (.int i3), .val (.int i4), .val (.int i5), .val (.int (3 : Int32)), .val (.int (0 : Int32)), .val (.int (6 : Int32)), .val (.int (i1 &&& (65535 : Int32))), .val (.int (i2 &&& (65535 : Int32))), .val (.int (i3 &&& (65535 : Int32))), .val (.ref b150), .unset, .unset] [(.int (4 : Int32)), (.ref b150)])) _
        refine XS.iload X158.here hx rfl (hb hby at_117) rfl ?_
        show Steps p.tables e below (T158.setTop (mkF m 119 #[.val (.int i1), .val (.int i2), .val (.int i3), .val (.int i4), .val (.int i5), .val (.int (3 : Int32)), .val (.int (0 : Int32)), .val (.int (6 : Int32)), .val (.int (i1 &&& (65535 : Int32))), .val (.int (i2 &&& (65535 : Int32))), .val (.int (i3 &&& (65535 : Int32))), .val (.ref b150), .unset, .unset] [(.int (i3 &&& (65535 : Int32))), (.int (4 : Int32)), (.ref b150)])) _
        refine XS.bipush X158.here hx rfl (hb hby at_119) ?_
        show Steps p.tables e below (T158.setTop (mkF m 121 #[.val (.int i1), .val (.int i2), .val (.int i3), .val (.int i4), .val (.int i5), .val (.int (3 : Int32)), .val (.int (0 : Int32)), .val (.int (6 : Int32)), .val (.int (i1 &&& (65535 : Int32))), .val (.int (i2 &&& (65535 : Int32))), .val (.int (i3 &&& (65535 : Int32))), .val (.ref b150), .unset, .unset] [(.int (8 : Int32)), (.int (i3 &&& (65535 : Int32))), (.int (4 : Int32)), (.ref b150)])) _
        refine XS.iushr X158.here hx rfl (hb hby at_121) rfl ?_
        show Steps p.tables e below (T158.setTop (mkF m 122 #[.val (.int i1), .val (.int i2), .val (.int i3), .val (.int i4), .val (.int i5), .val (.int (3 : Int32)), .val (.int (0 : Int32)), .val (.int (6 : Int32)), .val (.int (i1 &&& (65535 : Int32))), .val (.int (i2 &&& (65535 : Int32))), .val (.int (i3 &&& (65535 : Int32))), .val (.ref b150), .unset, .unset] [(.int (((i3 &&& (65535 : Int32)).toUInt32 >>> ((8 : Int32) &&& 31).toUInt32).toInt32)), (.int (4 : Int32)), (.ref b150)])) _
        refine XS.i2b X158.here hx rfl (hb hby at_122) rfl ?_
        show Steps p.tables e below (T158.setTop (mkF m 123 #[.val (.int i1), .val (.int i2), .val (.int i3), .val (.int i4), .val (.int i5), .val (.int (3 : Int32)), .val (.int (0 : Int32)), .val (.int (6 : Int32)), .val (.int (i1 &&& (65535 : Int32))), .val (.int (i2 &&& (65535 : Int32))), .val (.int (i3 &&& (65535 : Int32))), .val (.ref b150), .unset, .unset] [(.int ((((i3 &&& (65535 : Int32)).toUInt32 >>> ((8 : Int32) &&& 31).toUInt32).toInt32).toInt8.toInt32)), (.int (4 : Int32)), (.ref b150)])) _
        refine st160 _ ?_
        show Steps p.tables e below (T160.setTop (mkF m 124 #[.val (.int i1), .val (.int i2), .val (.int i3), .val (.int i4), .val (.int i5), .val (.int (3 : Int32)), .val (.int (0 : Int32)), .val (.int (6 : Int32)), .val (.int (i1 &&& (65535 : Int32))), .val (.int (i2 &&& (65535 : Int32))), .val (.int (i3 &&& (65535 : Int32))), .val (.ref b150), .unset, .unset] [])) _
        refine XS.aload X160.here hx rfl (hb hby at_124) rfl rfl ?_
        show Steps p.tables e below (T160.setTop (mkF m 126 #[.val (.int i1), .val (.int i2), .val (.int i3), .val (.int i4), .val (.int i5), .val (.int (3 : Int32)), .val (.int (0 : Int32)), .val (.int (6 : Int32)), .val (.int (i1 &&& (65535 : Int32))), .val (.int (i2 &&& (65535 : Int32))), .val (.int (i3 &&& (65535 : Int32))), .val (.ref b150), .unset, .unset] [(.ref b150)])) _
        refine XS.iconst X160.here hx rfl (hb hby at_126) ?_
        show Steps p.tables e below (T160.setTop (mkF m 127 #[.val (.int i1), .val (.int i2), .val (.int i3), .val (.int i4), .val (.int i5), .val (.int (3 : Int32)), .val (.int (0 : Int32)), .val (.int (6 : Int32)), .val (.int (i1 &&& (65535 : Int32))), .val (.int (i2 &&& (65535 : Int32))), .val (.int (i3 &&& (65535 : Int32))), .val (.ref b150), .unset, .unset] [(.int (5 : Int32)), (.ref b150)])) _
        refine XS.iload X160.here hx rfl (hb hby at_127) rfl ?_
        show Steps p.tables e below (T160.setTop (mkF m 129 #[.val (.int i1), .val (.int i2), .val (.int i3), .val (.int i4), .val (.int i5), .val (.int (3 : Int32)), .val (.int (0 : Int32)), .val (.int (6 : Int32)), .val (.int (i1 &&& (65535 : Int32))), .val (.int (i2 &&& (65535 : Int32))), .val (.int (i3 &&& (65535 : Int32))), .val (.ref b150), .unset, .unset] [(.int (i3 &&& (65535 : Int32))), (.int (5 : Int32)), (.ref b150)])) _
        refine XS.i2b X160.here hx rfl (hb hby at_129) rfl ?_
        show Steps p.tables e below (T160.setTop (mkF m 130 #[.val (.int i1), .val (.int i2), .val (.int i3), .val (.int i4), .val (.int i5), .val (.int (3 : Int32)), .val (.int (0 : Int32)), .val (.int (6 : Int32)), .val (.int (i1 &&& (65535 : Int32))), .val (.int (i2 &&& (65535 : Int32))), .val (.int (i3 &&& (65535 : Int32))), .val (.ref b150), .unset, .unset] [(.int ((i3 &&& (65535 : Int32)).toInt8.toInt32)), (.int (5 : Int32)), (.ref b150)])) _
        refine st162 _ ?_
        show Steps p.tables e below (T162.setTop (mkF m 131 #[.val (.int i1), .val (.int i2), .val (.int i3), .val (.int i4), .val (.int i5), .val (.int (3 : Int32)), .val (.int (0 : Int32)), .val (.int (6 : Int32)), .val (.int (i1 &&& (65535 : Int32))), .val (.int (i2 &&& (65535 : Int32))), .val (.int (i3 &&& (65535 : Int32))), .val (.ref b150), .unset, .unset] [])) _
        refine XS.iload X162.here hx rfl (hb hby at_131) rfl ?_
        show Steps p.tables e below (T162.setTop (mkF m 133 #[.val (.int i1), .val (.int i2), .val (.int i3), .val (.int i4), .val (.int i5), .val (.int (3 : Int32)), .val (.int (0 : Int32)), .val (.int (6 : Int32)), .val (.int (i1 &&& (65535 : Int32))), .val (.int (i2 &&& (65535 : Int32))), .val (.int (i3 &&& (65535 : Int32))), .val (.ref b150), .unset, .unset] [(.int (0 : Int32))])) _
        refine XS.ifYes X162.here hx rfl (pc0 := 133) (pc' := 145) rfl (hb hby at_133) rfl ((if0 _ _).trans (teq (by decide : (0 : Int32) = (0 : Int32))).1) (by decide) (by decide) ?_
        show Steps p.tables e below (T162.setTop (mkF m 145 #[.val (.int i1), .val (.int i2), .val (.int i3), .val (.int i4), .val (.int i5), .val (.int (3 : Int32)), .val (.int (0 : Int32)), .val (.int (6 : Int32)), .val (.int (i1 &&& (65535 : Int32))), .val (.int (i2 &&& (65535 : Int32))), .val (.int (i3 &&& (65535 : Int32))), .val (.ref b150), .unset, .unset] [])) _
        refine XS.aload X162.here hx rfl (hb hby at_145) rfl rfl ?_
        show Steps p.tables e below (T162.setTop (mkF m 147 #[.val (.int i1), .val (.int i2), .val (.int i3), .val (.int i4), .val (.int i5), .val (.int (3 : Int32)), .val (.int (0 : Int32)), .val (.int (6 : Int32)), .val (.int (i1 &&& (65535 : Int32))), .val (.int (i2 &&& (65535 : Int32))), .val (.int (i3 &&& (65535 : Int32))), .val (.ref b150), .unset, .unset] [(.ref b150)])) _
        refine st164 _ ?_
        show Steps p.tables e below (T164.setTop (mkF m 150 #[.val (.int i1), .val (.int i2), .val (.int i3), .val (.int i4), .val (.int i5), .val (.int (3 : Int32)), .val (.int (0 : Int32)), .val (.int (6 : Int32)), .val (.int (i1 &&& (65535 : Int32))), .val (.int (i2 &&& (65535 : Int32))), .val (.int (i3 &&& (65535 : Int32))), .val (.ref b150), .unset, .unset] [(.ref b164_0)])) _
        refine XS.astore X164.here hx rfl (hb hby at_150) rfl rfl (l' := #[.val (.int i1), .val (.int i2), .val (.int i3), .val (.int i4), .val (.int i5), .val (.int (3 : Int32)), .val (.int (0 : Int32)), .val (.int (6 : Int32)), .val (.int (i1 &&& (65535 : Int32))), .val (.int (i2 &&& (65535 : Int32))), .val (.int (i3 &&& (65535 : Int32))), .val (.ref b150), .val (.ref b164_0), .unset]) rfl ?_
        show Steps p.tables e below (T164.setTop (mkF m 152 #[.val (.int i1), .val (.int i2), .val (.int i3), .val (.int i4), .val (.int i5), .val (.int (3 : Int32)), .val (.int (0 : Int32)), .val (.int (6 : Int32)), .val (.int (i1 &&& (65535 : Int32))), .val (.int (i2 &&& (65535 : Int32))), .val (.int (i3 &&& (65535 : Int32))), .val (.ref b150), .val (.ref b164_0), .unset] [])) _
        refine XS.aload X164.here hx rfl (hb hby at_152) rfl rfl ?_
        show Steps p.tables e below (T164.setTop (mkF m 154 #[.val (.int i1), .val (.int i2), .val (.int i3), .val (.int i4), .val (.int i5), .val (.int (3 : Int32)), .val (.int (0 : Int32)), .val (.int (6 : Int32)), .val (.int (i1 &&& (65535 : Int32))), .val (.int (i2 &&& (65535 : Int32))), .val (.int (i3 &&& (65535 : Int32))), .val (.ref b150), .val (.ref b164_0), .unset] [(.ref b164_0)])) _
        refine X164.arraylength hx (by exact Ar166.1) (State.isArrayOf_alike hZ.alike Ar166.2.1) (g := (mkF m 154 #[.val (.int i1), .val (.int i2), .val (.int i3), .val (.int i4), .val (.int i5), .val (.int (3 : Int32)), .val (.int (0 : Int32)), .val (.int (6 : Int32)), .val (.int (i1 &&& (65535 : Int32))), .val (.int (i2 &&& (65535 : Int32))), .val (.int (i3 &&& (65535 : Int32))), .val (.ref b150), .val (.ref b164_0), .unset] [(.ref b164_0)])) rfl rfl (hb hby at_154) _ ?_
        rw [len_of Sz166 Nn166]
        show Steps p.tables e below (T164.setTop (mkF m 155 #[.val (.int i1), .val (.int i2), .val (.int i3), .val (.int i4), .val (.int i5), .val (.int (3 : Int32)), .val (.int (0 : Int32)), .val (.int (6 : Int32)), .val (.int (i1 &&& (65535 : Int32))), .val (.int (i2 &&& (65535 : Int32))), .val (.int (i3 &&& (65535 : Int32))), .val (.ref b150), .val (.ref b164_0), .unset] [(.int (3 : Int32))])) _
        refine XS.iload X164.here hx rfl (hb hby at_155) rfl ?_
        show Steps p.tables e below (T164.setTop (mkF m 157 #[.val (.int i1), .val (.int i2), .val (.int i3), .val (.int i4), .val (.int i5), .val (.int (3 : Int32)), .val (.int (0 : Int32)), .val (.int (6 : Int32)), .val (.int (i1 &&& (65535 : Int32))), .val (.int (i2 &&& (65535 : Int32))), .val (.int (i3 &&& (65535 : Int32))), .val (.ref b150), .val (.ref b164_0), .unset] [(.int (3 : Int32)), (.int (3 : Int32))])) _
        refine XS.icmpYes X164.here hx rfl (pc0 := 157) (pc' := 162) rfl (hb hby at_157) rfl (teq (by decide : (3 : Int32) = (3 : Int32))).1 (by decide) (by decide) ?_
        show Steps p.tables e below (T164.setTop (mkF m 162 #[.val (.int i1), .val (.int i2), .val (.int i3), .val (.int i4), .val (.int i5), .val (.int (3 : Int32)), .val (.int (0 : Int32)), .val (.int (6 : Int32)), .val (.int (i1 &&& (65535 : Int32))), .val (.int (i2 &&& (65535 : Int32))), .val (.int (i3 &&& (65535 : Int32))), .val (.ref b150), .val (.ref b164_0), .unset] [])) _
        refine XS.iconst X164.here hx rfl (hb hby at_162) ?_
        show Steps p.tables e below (T164.setTop (mkF m 163 #[.val (.int i1), .val (.int i2), .val (.int i3), .val (.int i4), .val (.int i5), .val (.int (3 : Int32)), .val (.int (0 : Int32)), .val (.int (6 : Int32)), .val (.int (i1 &&& (65535 : Int32))), .val (.int (i2 &&& (65535 : Int32))), .val (.int (i3 &&& (65535 : Int32))), .val (.ref b150), .val (.ref b164_0), .unset] [(.int (1 : Int32))])) _
        refine XS.istore X164.here hx rfl (hb hby at_163) rfl (l' := #[.val (.int i1), .val (.int i2), .val (.int i3), .val (.int i4), .val (.int i5), .val (.int (3 : Int32)), .val (.int (0 : Int32)), .val (.int (6 : Int32)), .val (.int (i1 &&& (65535 : Int32))), .val (.int (i2 &&& (65535 : Int32))), .val (.int (i3 &&& (65535 : Int32))), .val (.ref b150), .val (.ref b164_0), .val (.int (1 : Int32))]) rfl ?_
        show Steps p.tables e below (T164.setTop (mkF m 165 #[.val (.int i1), .val (.int i2), .val (.int i3), .val (.int i4), .val (.int i5), .val (.int (3 : Int32)), .val (.int (0 : Int32)), .val (.int (6 : Int32)), .val (.int (i1 &&& (65535 : Int32))), .val (.int (i2 &&& (65535 : Int32))), .val (.int (i3 &&& (65535 : Int32))), .val (.ref b150), .val (.ref b164_0), .val (.int (1 : Int32))] [])) _
        refine XS.iload X164.here hx rfl (hb hby at_165) rfl ?_
        show Steps p.tables e below (T164.setTop (mkF m 167 #[.val (.int i1), .val (.int i2), .val (.int i3), .val (.int i4), .val (.int i5), .val (.int (3 : Int32)), .val (.int (0 : Int32)), .val (.int (6 : Int32)), .val (.int (i1 &&& (65535 : Int32))), .val (.int (i2 &&& (65535 : Int32))), .val (.int (i3 &&& (65535 : Int32))), .val (.ref b150), .val (.ref b164_0), .val (.int (1 : Int32))] [(.int (3 : Int32))])) _
        refine XS.ifNo X164.here hx rfl (hb hby at_167) rfl ((if0 _ _).trans (tlt (by decide : (0 : Int32) < (3 : Int32))).2.2.2) ?_
        show Steps p.tables e below (T164.setTop (mkF m 170 #[.val (.int i1), .val (.int i2), .val (.int i3), .val (.int i4), .val (.int i5), .val (.int (3 : Int32)), .val (.int (0 : Int32)), .val (.int (6 : Int32)), .val (.int (i1 &&& (65535 : Int32))), .val (.int (i2 &&& (65535 : Int32))), .val (.int (i3 &&& (65535 : Int32))), .val (.ref b150), .val (.ref b164_0), .val (.int (1 : Int32))] [])) _
        refine XS.iload X164.here hx rfl (hb hby at_170) rfl ?_
        show Steps p.tables e below (T164.setTop (mkF m 172 #[.val (.int i1), .val (.int i2), .val (.int i3), .val (.int i4), .val (.int i5), .val (.int (3 : Int32)), .val (.int (0 : Int32)), .val (.int (6 : Int32)), .val (.int (i1 &&& (65535 : Int32))), .val (.int (i2 &&& (65535 : Int32))), .val (.int (i3 &&& (65535 : Int32))), .val (.ref b150), .val (.ref b164_0), .val (.int (1 : Int32))] [(.int (1 : Int32))])) _
        refine XS.ifNo X164.here hx rfl (hb hby at_172) rfl ((if0 _ _).trans (feq (by decide : ¬ ((1 : Int32) = (0 : Int32)))).1) ?_
        show Steps p.tables e below (T164.setTop (mkF m 175 #[.val (.int i1), .val (.int i2), .val (.int i3), .val (.int i4), .val (.int i5), .val (.int (3 : Int32)), .val (.int (0 : Int32)), .val (.int (6 : Int32)), .val (.int (i1 &&& (65535 : Int32))), .val (.int (i2 &&& (65535 : Int32))), .val (.int (i3 &&& (65535 : Int32))), .val (.ref b150), .val (.ref b164_0), .val (.int (1 : Int32))] [])) _
        refine XS.aload X164.here hx rfl (hb hby at_175) rfl rfl ?_
        show Steps p.tables e below (T164.setTop (mkF m 177 #[.val (.int i1), .val (.int i2), .val (.int i3), .val (.int i4), .val (.int i5), .val (.int (3 : Int32)), .val (.int (0 : Int32)), .val (.int (6 : Int32)), .val (.int (i1 &&& (65535 : Int32))), .val (.int (i2 &&& (65535 : Int32))), .val (.int (i3 &&& (65535 : Int32))), .val (.ref b150), .val (.ref b164_0), .val (.int (1 : Int32))] [(.ref b164_0)])) _
        refine XS.iconst X164.here hx rfl (hb hby at_177) ?_
        show Steps p.tables e below (T164.setTop (mkF m 178 #[.val (.int i1), .val (.int i2), .val (.int i3), .val (.int i4), .val (.int i5), .val (.int (3 : Int32)), .val (.int (0 : Int32)), .val (.int (6 : Int32)), .val (.int (i1 &&& (65535 : Int32))), .val (.int (i2 &&& (65535 : Int32))), .val (.int (i3 &&& (65535 : Int32))), .val (.ref b150), .val (.ref b164_0), .val (.int (1 : Int32))] [(.int (0 : Int32)), (.ref b164_0)])) _
        refine X164.caload hx (j := (0 : Int32)) (v := (.int (nar .char (((((nar .byte ((((i1 &&& (65535 : Int32)).toUInt32 >>> ((8 : Int32) &&& 31).toUInt32).toInt32).toInt8.toInt32)) &&& (255 : Int32)) <<< ((8 : Int32) &&& 31)) ||| ((nar .byte ((i1 &&& (65535 : Int32)).toInt8.toInt32)) &&& (255 : Int32))).toUInt32.toUInt16.toUInt32.toInt32)))) (by exact Ar167.1) (State.isArrayOf_alike hZ.alike Ar167.2.1) Ar167.2.2 hin167 hat167 (g := (mkF m 178 #[.val (.int i1), .val (.int i2), .val (.int i3), .val (.int i4), .val (.int i5), .val (.int (3 : Int32)), .val (.int (0 : Int32)), .val (.int (6 : Int32)), .val (.int (i1 &&& (65535 : Int32))), .val (.int (i2 &&& (65535 : Int32))), .val (.int (i3 &&& (65535 : Int32))), .val (.ref b150), .val (.ref b164_0), .val (.int (1 : Int32))] [(.int (0 : Int32)), (.ref b164_0)])) rfl rfl (hb hby at_178) _ ?_
        show Steps p.tables e below (T164.setTop (mkF m 179 #[.val (.int i1), .val (.int i2), .val (.int i3), .val (.int i4), .val (.int i5), .val (.int (3 : Int32)), .val (.int (0 : Int32)), .val (.int (6 : Int32)), .val (.int (i1 &&& (65535 : Int32))), .val (.int (i2 &&& (65535 : Int32))), .val (.int (i3 &&& (65535 : Int32))), .val (.ref b150), .val (.ref b164_0), .val (.int (1 : Int32))] [(.int (nar .char (((((nar .byte ((((i1 &&& (65535 : Int32)).toUInt32 >>> ((8 : Int32) &&& 31).toUInt32).toInt32).toInt8.toInt32)) &&& (255 : Int32)) <<< ((8 : Int32) &&& 31)) ||| ((nar .byte ((i1 &&& (65535 : Int32)).toInt8.toInt32)) &&& (255 : Int32))).toUInt32.toUInt16.toUInt32.toInt32)))])) _
        refine XS.iload X164.here hx rfl (hb hby at_179) rfl ?_
        exact k
      have pre172 : ∀ t, Steps p.tables e below (T164.setTop (mkF m 189 #[.val (.int i1), .val (.int i2), .val (.int i3), .val (.int i4), .val (.int i5), .val (.int (3 : Int32)), .val (.int (0 : Int32)), .val (.int (6 : Int32)), .val (.int (i1 &&& (65535 : Int32))), .val (.int (i2 &&& (65535 : Int32))), .val (.int (i3 &&& (65535 : Int32))), .val (.ref b150), .val (.ref b164_0), .val (.int (1 : Int32))] [(.int (own_j0_181_0 i1))])) t → Steps p.tables e below (s₁.setTop (entryFrame m #[(.int i1), (.int i2), (.int i3), (.int i4), (.int i5)] maxLocals)) t := by
        by_cases hc181_169 : (nar .char (((((nar .byte ((((i1 &&& (65535 : Int32)).toUInt32 >>> ((8 : Int32) &&& 31).toUInt32).toInt32).toInt8.toInt32)) &&& (255 : Int32)) <<< ((8 : Int32) &&& 31)) ||| ((nar .byte ((i1 &&& (65535 : Int32)).toInt8.toInt32)) &&& (255 : Int32))).toUInt32.toUInt16.toUInt32.toInt32)) = (i1 &&& (65535 : Int32))
        · have pre170 : ∀ t, Steps p.tables e below (T164.setTop (mkF m 189 #[.val (.int i1), .val (.int i2), .val (.int i3), .val (.int i4), .val (.int i5), .val (.int (3 : Int32)), .val (.int (0 : Int32)), .val (.int (6 : Int32)), .val (.int (i1 &&& (65535 : Int32))), .val (.int (i2 &&& (65535 : Int32))), .val (.int (i3 &&& (65535 : Int32))), .val (.ref b150), .val (.ref b164_0), .val (.int (1 : Int32))] [(.int (1 : Int32))])) t → Steps p.tables e below (s₁.setTop (entryFrame m #[(.int i1), (.int i2), (.int i3), (.int i4), (.int i5)] maxLocals)) t := by
            intro t k
            refine pre168 _ ?_
            show Steps p.tables e below (T164.setTop (mkF m 181 #[.val (.int i1), .val (.int i2), .val (.int i3), .val (.int i4), .val (.int i5), .val (.int (3 : Int32)), .val (.int (0 : Int32)), .val (.int (6 : Int32)), .val (.int (i1 &&& (65535 : Int32))), .val (.int (i2 &&& (65535 : Int32))), .val (.int (i3 &&& (65535 : Int32))), .val (.ref b150), .val (.ref b164_0), .val (.int (1 : Int32))] [(.int (i1 &&& (65535 : Int32))), (.int (nar .char (((((nar .byte ((((i1 &&& (65535 : Int32)).toUInt32 >>> ((8 : Int32) &&& 31).toUInt32).toInt32).toInt8.toInt32)) &&& (255 : Int32)) <<< ((8 : Int32) &&& 31)) ||| ((nar .byte ((i1 &&& (65535 : Int32)).toInt8.toInt32)) &&& (255 : Int32))).toUInt32.toUInt16.toUInt32.toInt32)))])) _
            refine XS.icmpNo X164.here hx rfl (hb hby at_181) rfl (teq hc181_169).2 ?_
            show Steps p.tables e below (T164.setTop (mkF m 184 #[.val (.int i1), .val (.int i2), .val (.int i3), .val (.int i4), .val (.int i5), .val (.int (3 : Int32)), .val (.int (0 : Int32)), .val (.int (6 : Int32)), .val (.int (i1 &&& (65535 : Int32))), .val (.int (i2 &&& (65535 : Int32))), .val (.int (i3 &&& (65535 : Int32))), .val (.ref b150), .val (.ref b164_0), .val (.int (1 : Int32))] [])) _
            refine XS.iconst X164.here hx rfl (hb hby at_184) ?_
            show Steps p.tables e below (T164.setTop (mkF m 185 #[.val (.int i1), .val (.int i2), .val (.int i3), .val (.int i4), .val (.int i5), .val (.int (3 : Int32)), .val (.int (0 : Int32)), .val (.int (6 : Int32)), .val (.int (i1 &&& (65535 : Int32))), .val (.int (i2 &&& (65535 : Int32))), .val (.int (i3 &&& (65535 : Int32))), .val (.ref b150), .val (.ref b164_0), .val (.int (1 : Int32))] [(.int (1 : Int32))])) _
            refine XS.goto X164.here hx rfl (pc0 := 185) (pc' := 189) rfl (hb hby at_185) (by decide) (by decide) ?_
            exact k
          exact fun t k => pre170 t (by rw [show (own_j0_181_0 i1) = (1 : Int32) from (if_pos hc181_169)] at k; exact k)
        · have pre171 : ∀ t, Steps p.tables e below (T164.setTop (mkF m 189 #[.val (.int i1), .val (.int i2), .val (.int i3), .val (.int i4), .val (.int i5), .val (.int (3 : Int32)), .val (.int (0 : Int32)), .val (.int (6 : Int32)), .val (.int (i1 &&& (65535 : Int32))), .val (.int (i2 &&& (65535 : Int32))), .val (.int (i3 &&& (65535 : Int32))), .val (.ref b150), .val (.ref b164_0), .val (.int (1 : Int32))] [(.int (0 : Int32))])) t → Steps p.tables e below (s₁.setTop (entryFrame m #[(.int i1), (.int i2), (.int i3), (.int i4), (.int i5)] maxLocals)) t := by
            intro t k
            refine pre168 _ ?_
            show Steps p.tables e below (T164.setTop (mkF m 181 #[.val (.int i1), .val (.int i2), .val (.int i3), .val (.int i4), .val (.int i5), .val (.int (3 : Int32)), .val (.int (0 : Int32)), .val (.int (6 : Int32)), .val (.int (i1 &&& (65535 : Int32))), .val (.int (i2 &&& (65535 : Int32))), .val (.int (i3 &&& (65535 : Int32))), .val (.ref b150), .val (.ref b164_0), .val (.int (1 : Int32))] [(.int (i1 &&& (65535 : Int32))), (.int (nar .char (((((nar .byte ((((i1 &&& (65535 : Int32)).toUInt32 >>> ((8 : Int32) &&& 31).toUInt32).toInt32).toInt8.toInt32)) &&& (255 : Int32)) <<< ((8 : Int32) &&& 31)) ||| ((nar .byte ((i1 &&& (65535 : Int32)).toInt8.toInt32)) &&& (255 : Int32))).toUInt32.toUInt16.toUInt32.toInt32)))])) _
            refine XS.icmpYes X164.here hx rfl (pc0 := 181) (pc' := 188) rfl (hb hby at_181) rfl (feq hc181_169).2 (by decide) (by decide) ?_
            show Steps p.tables e below (T164.setTop (mkF m 188 #[.val (.int i1), .val (.int i2), .val (.int i3), .val (.int i4), .val (.int i5), .val (.int (3 : Int32)), .val (.int (0 : Int32)), .val (.int (6 : Int32)), .val (.int (i1 &&& (65535 : Int32))), .val (.int (i2 &&& (65535 : Int32))), .val (.int (i3 &&& (65535 : Int32))), .val (.ref b150), .val (.ref b164_0), .val (.int (1 : Int32))] [])) _
            refine XS.iconst X164.here hx rfl (hb hby at_188) ?_
            exact k
          exact fun t k => pre171 t (by rw [show (own_j0_181_0 i1) = (0 : Int32) from (if_neg hc181_169)] at k; exact k)
      have pre173 : ∀ t, Steps p.tables e below (T164.setTop (mkF m 199 #[.val (.int i1), .val (.int i2), .val (.int i3), .val (.int i4), .val (.int i5), .val (.int (3 : Int32)), .val (.int (0 : Int32)), .val (.int (6 : Int32)), .val (.int (i1 &&& (65535 : Int32))), .val (.int (i2 &&& (65535 : Int32))), .val (.int (i3 &&& (65535 : Int32))), .val (.ref b150), .val (.ref b164_0), .val (.int (own_j0_181_0 i1))] [(.int (own_j0_181_0 i1))])) t → Steps p.tables e below (s₁.setTop (entryFrame m #[(.int i1), (.int i2), (.int i3), (.int i4), (.int i5)] maxLocals)) t := by
        intro t k
        refine pre172 _ ?_
        show Steps p.tables e below (T164.setTop (mkF m 189 #[.val (.int i1), .val (.int i2), .val (.int i3), .val (.int i4), .val (.int i5), .val (.int (3 : Int32)), .val (.int (0 : Int32)), .val (.int (6 : Int32)), .val (.int (i1 &&& (65535 : Int32))), .val (.int (i2 &&& (65535 : Int32))), .val (.int (i3 &&& (65535 : Int32))), .val (.ref b150), .val (.ref b164_0), .val (.int (1 : Int32))] [(.int (own_j0_181_0 i1))])) _
        refine XS.istore X164.here hx rfl (hb hby at_189) rfl (l' := #[.val (.int i1), .val (.int i2), .val (.int i3), .val (.int i4), .val (.int i5), .val (.int (3 : Int32)), .val (.int (0 : Int32)), .val (.int (6 : Int32)), .val (.int (i1 &&& (65535 : Int32))), .val (.int (i2 &&& (65535 : Int32))), .val (.int (i3 &&& (65535 : Int32))), .val (.ref b150), .val (.ref b164_0), .val (.int (own_j0_181_0 i1))]) rfl ?_
        show Steps p.tables e below (T164.setTop (mkF m 191 #[.val (.int i1), .val (.int i2), .val (.int i3), .val (.int i4), .val (.int i5), .val (.int (3 : Int32)), .val (.int (0 : Int32)), .val (.int (6 : Int32)), .val (.int (i1 &&& (65535 : Int32))), .val (.int (i2 &&& (65535 : Int32))), .val (.int (i3 &&& (65535 : Int32))), .val (.ref b150), .val (.ref b164_0), .val (.int (own_j0_181_0 i1))] [])) _
        refine XS.iload X164.here hx rfl (hb hby at_191) rfl ?_
        show Steps p.tables e below (T164.setTop (mkF m 193 #[.val (.int i1), .val (.int i2), .val (.int i3), .val (.int i4), .val (.int i5), .val (.int (3 : Int32)), .val (.int (0 : Int32)), .val (.int (6 : Int32)), .val (.int (i1 &&& (65535 : Int32))), .val (.int (i2 &&& (65535 : Int32))), .val (.int (i3 &&& (65535 : Int32))), .val (.ref b150), .val (.ref b164_0), .val (.int (own_j0_181_0 i1))] [(.int (3 : Int32))])) _
        refine XS.iconst X164.here hx rfl (hb hby at_193) ?_
        show Steps p.tables e below (T164.setTop (mkF m 194 #[.val (.int i1), .val (.int i2), .val (.int i3), .val (.int i4), .val (.int i5), .val (.int (3 : Int32)), .val (.int (0 : Int32)), .val (.int (6 : Int32)), .val (.int (i1 &&& (65535 : Int32))), .val (.int (i2 &&& (65535 : Int32))), .val (.int (i3 &&& (65535 : Int32))), .val (.ref b150), .val (.ref b164_0), .val (.int (own_j0_181_0 i1))] [(.int (1 : Int32)), (.int (3 : Int32))])) _
        refine XS.icmpNo X164.here hx rfl (hb hby at_194) rfl (tlt (by decide : (1 : Int32) < (3 : Int32))).2.2.2 ?_
        show Steps p.tables e below (T164.setTop (mkF m 197 #[.val (.int i1), .val (.int i2), .val (.int i3), .val (.int i4), .val (.int i5), .val (.int (3 : Int32)), .val (.int (0 : Int32)), .val (.int (6 : Int32)), .val (.int (i1 &&& (65535 : Int32))), .val (.int (i2 &&& (65535 : Int32))), .val (.int (i3 &&& (65535 : Int32))), .val (.ref b150), .val (.ref b164_0), .val (.int (own_j0_181_0 i1))] [])) _
        refine XS.iload X164.here hx rfl (hb hby at_197) rfl ?_
        exact k
      have pre181 : ∀ t, Steps p.tables e below (T164.setTop (mkF m 216 #[.val (.int i1), .val (.int i2), .val (.int i3), .val (.int i4), .val (.int i5), .val (.int (3 : Int32)), .val (.int (0 : Int32)), .val (.int (6 : Int32)), .val (.int (i1 &&& (65535 : Int32))), .val (.int (i2 &&& (65535 : Int32))), .val (.int (i3 &&& (65535 : Int32))), .val (.ref b150), .val (.ref b164_0), .val (.int (own_j0_181_0 i1))] [(.int (own_j0_199_0 i1 i2))])) t → Steps p.tables e below (s₁.setTop (entryFrame m #[(.int i1), (.int i2), (.int i3), (.int i4), (.int i5)] maxLocals)) t := by
        by_cases hc199_174 : (own_j0_181_0 i1) = (0 : Int32)
        · have pre175 : ∀ t, Steps p.tables e below (T164.setTop (mkF m 216 #[.val (.int i1), .val (.int i2), .val (.int i3), .val (.int i4), .val (.int i5), .val (.int (3 : Int32)), .val (.int (0 : Int32)), .val (.int (6 : Int32)), .val (.int (i1 &&& (65535 : Int32))), .val (.int (i2 &&& (65535 : Int32))), .val (.int (i3 &&& (65535 : Int32))), .val (.ref b150), .val (.ref b164_0), .val (.int (own_j0_181_0 i1))] [(.int (0 : Int32))])) t → Steps p.tables e below (s₁.setTop (entryFrame m #[(.int i1), (.int i2), (.int i3), (.int i4), (.int i5)] maxLocals)) t := by
            intro t k
            refine pre173 _ ?_
            show Steps p.tables e below (T164.setTop (mkF m 199 #[.val (.int i1), .val (.int i2), .val (.int i3), .val (.int i4), .val (.int i5), .val (.int (3 : Int32)), .val (.int (0 : Int32)), .val (.int (6 : Int32)), .val (.int (i1 &&& (65535 : Int32))), .val (.int (i2 &&& (65535 : Int32))), .val (.int (i3 &&& (65535 : Int32))), .val (.ref b150), .val (.ref b164_0), .val (.int (own_j0_181_0 i1))] [(.int (own_j0_181_0 i1))])) _
            refine XS.ifYes X164.here hx rfl (pc0 := 199) (pc' := 215) rfl (hb hby at_199) rfl ((if0 _ _).trans (teq hc199_174).1) (by decide) (by decide) ?_
            show Steps p.tables e below (T164.setTop (mkF m 215 #[.val (.int i1), .val (.int i2), .val (.int i3), .val (.int i4), .val (.int i5), .val (.int (3 : Int32)), .val (.int (0 : Int32)), .val (.int (6 : Int32)), .val (.int (i1 &&& (65535 : Int32))), .val (.int (i2 &&& (65535 : Int32))), .val (.int (i3 &&& (65535 : Int32))), .val (.ref b150), .val (.ref b164_0), .val (.int (own_j0_181_0 i1))] [])) _
            refine XS.iconst X164.here hx rfl (hb hby at_215) ?_
            exact k
          exact fun t k => pre175 t (by rw [show (own_j0_199_0 i1 i2) = (0 : Int32) from (if_pos hc199_174)] at k; exact k)
        · obtain ⟨cl176, Ar176, Cq176, Sz176, Nn176, Hh176, Gg176⟩ := id f164_0
          have hin176 : ¬ ((1 : Int32) < 0 ∨ cl176.slots.size ≤ ((1 : Int32)).toNatClampNeg) := inb_of Sz176 ⟨by decide, by decide⟩
          have hat176 : cl176.slots[((1 : Int32)).toNatClampNeg]? = some (.int (nar .char (((((nar .byte ((((i2 &&& (65535 : Int32)).toUInt32 >>> ((8 : Int32) &&& 31).toUInt32).toInt32).toInt8.toInt32)) &&& (255 : Int32)) <<< ((8 : Int32) &&& 31)) ||| ((nar .byte ((i2 &&& (65535 : Int32)).toInt8.toInt32)) &&& (255 : Int32))).toUInt32.toUInt16.toUInt32.toInt32))) := Hh176.at hin176 rfl
          have pre177 : ∀ t, Steps p.tables e below (T164.setTop (mkF m 208 #[.val (.int i1), .val (.int i2), .val (.int i3), .val (.int i4), .val (.int i5), .val (.int (3 : Int32)), .val (.int (0 : Int32)), .val (.int (6 : Int32)), .val (.int (i1 &&& (65535 : Int32))), .val (.int (i2 &&& (65535 : Int32))), .val (.int (i3 &&& (65535 : Int32))), .val (.ref b150), .val (.ref b164_0), .val (.int (own_j0_181_0 i1))] [(.int (i2 &&& (65535 : Int32))), (.int (nar .char (((((nar .byte ((((i2 &&& (65535 : Int32)).toUInt32 >>> ((8 : Int32) &&& 31).toUInt32).toInt32).toInt8.toInt32)) &&& (255 : Int32)) <<< ((8 : Int32) &&& 31)) ||| ((nar .byte ((i2 &&& (65535 : Int32)).toInt8.toInt32)) &&& (255 : Int32))).toUInt32.toUInt16.toUInt32.toInt32)))])) t → Steps p.tables e below (s₁.setTop (entryFrame m #[(.int i1), (.int i2), (.int i3), (.int i4), (.int i5)] maxLocals)) t := by
            intro t k
            refine pre173 _ ?_
            show Steps p.tables e below (T164.setTop (mkF m 199 #[.val (.int i1), .val (.int i2), .val (.int i3), .val (.int i4), .val (.int i5), .val (.int (3 : Int32)), .val (.int (0 : Int32)), .val (.int (6 : Int32)), .val (.int (i1 &&& (65535 : Int32))), .val (.int (i2 &&& (65535 : Int32))), .val (.int (i3 &&& (65535 : Int32))), .val (.ref b150), .val (.ref b164_0), .val (.int (own_j0_181_0 i1))] [(.int (own_j0_181_0 i1))])) _
            refine XS.ifNo X164.here hx rfl (hb hby at_199) rfl ((if0 _ _).trans (feq hc199_174).1) ?_
            show Steps p.tables e below (T164.setTop (mkF m 202 #[.val (.int i1), .val (.int i2), .val (.int i3), .val (.int i4), .val (.int i5), .val (.int (3 : Int32)), .val (.int (0 : Int32)), .val (.int (6 : Int32)), .val (.int (i1 &&& (65535 : Int32))), .val (.int (i2 &&& (65535 : Int32))), .val (.int (i3 &&& (65535 : Int32))), .val (.ref b150), .val (.ref b164_0), .val (.int (own_j0_181_0 i1))] [])) _
            refine XS.aload X164.here hx rfl (hb hby at_202) rfl rfl ?_
            show Steps p.tables e below (T164.setTop (mkF m 204 #[.val (.int i1), .val (.int i2), .val (.int i3), .val (.int i4), .val (.int i5), .val (.int (3 : Int32)), .val (.int (0 : Int32)), .val (.int (6 : Int32)), .val (.int (i1 &&& (65535 : Int32))), .val (.int (i2 &&& (65535 : Int32))), .val (.int (i3 &&& (65535 : Int32))), .val (.ref b150), .val (.ref b164_0), .val (.int (own_j0_181_0 i1))] [(.ref b164_0)])) _
            refine XS.iconst X164.here hx rfl (hb hby at_204) ?_
            show Steps p.tables e below (T164.setTop (mkF m 205 #[.val (.int i1), .val (.int i2), .val (.int i3), .val (.int i4), .val (.int i5), .val (.int (3 : Int32)), .val (.int (0 : Int32)), .val (.int (6 : Int32)), .val (.int (i1 &&& (65535 : Int32))), .val (.int (i2 &&& (65535 : Int32))), .val (.int (i3 &&& (65535 : Int32))), .val (.ref b150), .val (.ref b164_0), .val (.int (own_j0_181_0 i1))] [(.int (1 : Int32)), (.ref b164_0)])) _
            refine X164.caload hx (j := (1 : Int32)) (v := (.int (nar .char (((((nar .byte ((((i2 &&& (65535 : Int32)).toUInt32 >>> ((8 : Int32) &&& 31).toUInt32).toInt32).toInt8.toInt32)) &&& (255 : Int32)) <<< ((8 : Int32) &&& 31)) ||| ((nar .byte ((i2 &&& (65535 : Int32)).toInt8.toInt32)) &&& (255 : Int32))).toUInt32.toUInt16.toUInt32.toInt32)))) (by exact Ar176.1) (State.isArrayOf_alike hZ.alike Ar176.2.1) Ar176.2.2 hin176 hat176 (g := (mkF m 205 #[.val (.int i1), .val (.int i2), .val (.int i3), .val (.int i4), .val (.int i5), .val (.int (3 : Int32)), .val (.int (0 : Int32)), .val (.int (6 : Int32)), .val (.int (i1 &&& (65535 : Int32))), .val (.int (i2 &&& (65535 : Int32))), .val (.int (i3 &&& (65535 : Int32))), .val (.ref b150), .val (.ref b164_0), .val (.int (own_j0_181_0 i1))] [(.int (1 : Int32)), (.ref b164_0)])) rfl rfl (hb hby at_205) _ ?_
            show Steps p.tables e below (T164.setTop (mkF m 206 #[.val (.int i1), .val (.int i2), .val (.int i3), .val (.int i4), .val (.int i5), .val (.int (3 : Int32)), .val (.int (0 : Int32)), .val (.int (6 : Int32)), .val (.int (i1 &&& (65535 : Int32))), .val (.int (i2 &&& (65535 : Int32))), .val (.int (i3 &&& (65535 : Int32))), .val (.ref b150), .val (.ref b164_0), .val (.int (own_j0_181_0 i1))] [(.int (nar .char (((((nar .byte ((((i2 &&& (65535 : Int32)).toUInt32 >>> ((8 : Int32) &&& 31).toUInt32).toInt32).toInt8.toInt32)) &&& (255 : Int32)) <<< ((8 : Int32) &&& 31)) ||| ((nar .byte ((i2 &&& (65535 : Int32)).toInt8.toInt32)) &&& (255 : Int32))).toUInt32.toUInt16.toUInt32.toInt32)))])) _
            refine XS.iload X164.here hx rfl (hb hby at_206) rfl ?_
            exact k
          by_cases hc208_178 : (nar .char (((((nar .byte ((((i2 &&& (65535 : Int32)).toUInt32 >>> ((8 : Int32) &&& 31).toUInt32).toInt32).toInt8.toInt32)) &&& (255 : Int32)) <<< ((8 : Int32) &&& 31)) ||| ((nar .byte ((i2 &&& (65535 : Int32)).toInt8.toInt32)) &&& (255 : Int32))).toUInt32.toUInt16.toUInt32.toInt32)) = (i2 &&& (65535 : Int32))
          · have pre179 : ∀ t, Steps p.tables e below (T164.setTop (mkF m 216 #[.val (.int i1), .val (.int i2), .val (.int i3), .val (.int i4), .val (.int i5), .val (.int (3 : Int32)), .val (.int (0 : Int32)), .val (.int (6 : Int32)), .val (.int (i1 &&& (65535 : Int32))), .val (.int (i2 &&& (65535 : Int32))), .val (.int (i3 &&& (65535 : Int32))), .val (.ref b150), .val (.ref b164_0), .val (.int (own_j0_181_0 i1))] [(.int (1 : Int32))])) t → Steps p.tables e below (s₁.setTop (entryFrame m #[(.int i1), (.int i2), (.int i3), (.int i4), (.int i5)] maxLocals)) t := by
              intro t k
              refine pre177 _ ?_
              show Steps p.tables e below (T164.setTop (mkF m 208 #[.val (.int i1), .val (.int i2), .val (.int i3), .val (.int i4), .val (.int i5), .val (.int (3 : Int32)), .val (.int (0 : Int32)), .val (.int (6 : Int32)), .val (.int (i1 &&& (65535 : Int32))), .val (.int (i2 &&& (65535 : Int32))), .val (.int (i3 &&& (65535 : Int32))), .val (.ref b150), .val (.ref b164_0), .val (.int (own_j0_181_0 i1))] [(.int (i2 &&& (65535 : Int32))), (.int (nar .char (((((nar .byte ((((i2 &&& (65535 : Int32)).toUInt32 >>> ((8 : Int32) &&& 31).toUInt32).toInt32).toInt8.toInt32)) &&& (255 : Int32)) <<< ((8 : Int32) &&& 31)) ||| ((nar .byte ((i2 &&& (65535 : Int32)).toInt8.toInt32)) &&& (255 : Int32))).toUInt32.toUInt16.toUInt32.toInt32)))])) _
              refine XS.icmpNo X164.here hx rfl (hb hby at_208) rfl (teq hc208_178).2 ?_
              show Steps p.tables e below (T164.setTop (mkF m 211 #[.val (.int i1), .val (.int i2), .val (.int i3), .val (.int i4), .val (.int i5), .val (.int (3 : Int32)), .val (.int (0 : Int32)), .val (.int (6 : Int32)), .val (.int (i1 &&& (65535 : Int32))), .val (.int (i2 &&& (65535 : Int32))), .val (.int (i3 &&& (65535 : Int32))), .val (.ref b150), .val (.ref b164_0), .val (.int (own_j0_181_0 i1))] [])) _
              refine XS.iconst X164.here hx rfl (hb hby at_211) ?_
              show Steps p.tables e below (T164.setTop (mkF m 212 #[.val (.int i1), .val (.int i2), .val (.int i3), .val (.int i4), .val (.int i5), .val (.int (3 : Int32)), .val (.int (0 : Int32)), .val (.int (6 : Int32)), .val (.int (i1 &&& (65535 : Int32))), .val (.int (i2 &&& (65535 : Int32))), .val (.int (i3 &&& (65535 : Int32))), .val (.ref b150), .val (.ref b164_0), .val (.int (own_j0_181_0 i1))] [(.int (1 : Int32))])) _
              refine XS.goto X164.here hx rfl (pc0 := 212) (pc' := 216) rfl (hb hby at_212) (by decide) (by decide) ?_
              exact k
            exact fun t k => pre179 t (by rw [show (own_j0_199_0 i1 i2) = (1 : Int32) from ((if_neg hc199_174).trans (if_pos hc208_178))] at k; exact k)
          · have pre180 : ∀ t, Steps p.tables e below (T164.setTop (mkF m 216 #[.val (.int i1), .val (.int i2), .val (.int i3), .val (.int i4), .val (.int i5), .val (.int (3 : Int32)), .val (.int (0 : Int32)), .val (.int (6 : Int32)), .val (.int (i1 &&& (65535 : Int32))), .val (.int (i2 &&& (65535 : Int32))), .val (.int (i3 &&& (65535 : Int32))), .val (.ref b150), .val (.ref b164_0), .val (.int (own_j0_181_0 i1))] [(.int (0 : Int32))])) t → Steps p.tables e below (s₁.setTop (entryFrame m #[(.int i1), (.int i2), (.int i3), (.int i4), (.int i5)] maxLocals)) t := by
              intro t k
              refine pre177 _ ?_
              show Steps p.tables e below (T164.setTop (mkF m 208 #[.val (.int i1), .val (.int i2), .val (.int i3), .val (.int i4), .val (.int i5), .val (.int (3 : Int32)), .val (.int (0 : Int32)), .val (.int (6 : Int32)), .val (.int (i1 &&& (65535 : Int32))), .val (.int (i2 &&& (65535 : Int32))), .val (.int (i3 &&& (65535 : Int32))), .val (.ref b150), .val (.ref b164_0), .val (.int (own_j0_181_0 i1))] [(.int (i2 &&& (65535 : Int32))), (.int (nar .char (((((nar .byte ((((i2 &&& (65535 : Int32)).toUInt32 >>> ((8 : Int32) &&& 31).toUInt32).toInt32).toInt8.toInt32)) &&& (255 : Int32)) <<< ((8 : Int32) &&& 31)) ||| ((nar .byte ((i2 &&& (65535 : Int32)).toInt8.toInt32)) &&& (255 : Int32))).toUInt32.toUInt16.toUInt32.toInt32)))])) _
              refine XS.icmpYes X164.here hx rfl (pc0 := 208) (pc' := 215) rfl (hb hby at_208) rfl (feq hc208_178).2 (by decide) (by decide) ?_
              show Steps p.tables e below (T164.setTop (mkF m 215 #[.val (.int i1), .val (.int i2), .val (.int i3), .val (.int i4), .val (.int i5), .val (.int (3 : Int32)), .val (.int (0 : Int32)), .val (.int (6 : Int32)), .val (.int (i1 &&& (65535 : Int32))), .val (.int (i2 &&& (65535 : Int32))), .val (.int (i3 &&& (65535 : Int32))), .val (.ref b150), .val (.ref b164_0), .val (.int (own_j0_181_0 i1))] [])) _
              refine XS.iconst X164.here hx rfl (hb hby at_215) ?_
              exact k
            exact fun t k => pre180 t (by rw [show (own_j0_199_0 i1 i2) = (0 : Int32) from ((if_neg hc199_174).trans (if_neg hc208_178))] at k; exact k)
      have pre182 : ∀ t, Steps p.tables e below (T164.setTop (mkF m 226 #[.val (.int i1), .val (.int i2), .val (.int i3), .val (.int i4), .val (.int i5), .val (.int (3 : Int32)), .val (.int (0 : Int32)), .val (.int (6 : Int32)), .val (.int (i1 &&& (65535 : Int32))), .val (.int (i2 &&& (65535 : Int32))), .val (.int (i3 &&& (65535 : Int32))), .val (.ref b150), .val (.ref b164_0), .val (.int (own_j0_199_0 i1 i2))] [(.int (own_j0_199_0 i1 i2))])) t → Steps p.tables e below (s₁.setTop (entryFrame m #[(.int i1), (.int i2), (.int i3), (.int i4), (.int i5)] maxLocals)) t := by
        intro t k
        refine pre181 _ ?_
        show Steps p.tables e below (T164.setTop (mkF m 216 #[.val (.int i1), .val (.int i2), .val (.int i3), .val (.int i4), .val (.int i5), .val (.int (3 : Int32)), .val (.int (0 : Int32)), .val (.int (6 : Int32)), .val (.int (i1 &&& (65535 : Int32))), .val (.int (i2 &&& (65535 : Int32))), .val (.int (i3 &&& (65535 : Int32))), .val (.ref b150), .val (.ref b164_0), .val (.int (own_j0_181_0 i1))] [(.int (own_j0_199_0 i1 i2))])) _
        refine XS.istore X164.here hx rfl (hb hby at_216) rfl (l' := #[.val (.int i1), .val (.int i2), .val (.int i3), .val (.int i4), .val (.int i5), .val (.int (3 : Int32)), .val (.int (0 : Int32)), .val (.int (6 : Int32)), .val (.int (i1 &&& (65535 : Int32))), .val (.int (i2 &&& (65535 : Int32))), .val (.int (i3 &&& (65535 : Int32))), .val (.ref b150), .val (.ref b164_0), .val (.int (own_j0_199_0 i1 i2))]) rfl ?_
        show Steps p.tables e below (T164.setTop (mkF m 218 #[.val (.int i1), .val (.int i2), .val (.int i3), .val (.int i4), .val (.int i5), .val (.int (3 : Int32)), .val (.int (0 : Int32)), .val (.int (6 : Int32)), .val (.int (i1 &&& (65535 : Int32))), .val (.int (i2 &&& (65535 : Int32))), .val (.int (i3 &&& (65535 : Int32))), .val (.ref b150), .val (.ref b164_0), .val (.int (own_j0_199_0 i1 i2))] [])) _
        refine XS.iload X164.here hx rfl (hb hby at_218) rfl ?_
        show Steps p.tables e below (T164.setTop (mkF m 220 #[.val (.int i1), .val (.int i2), .val (.int i3), .val (.int i4), .val (.int i5), .val (.int (3 : Int32)), .val (.int (0 : Int32)), .val (.int (6 : Int32)), .val (.int (i1 &&& (65535 : Int32))), .val (.int (i2 &&& (65535 : Int32))), .val (.int (i3 &&& (65535 : Int32))), .val (.ref b150), .val (.ref b164_0), .val (.int (own_j0_199_0 i1 i2))] [(.int (3 : Int32))])) _
        refine XS.iconst X164.here hx rfl (hb hby at_220) ?_
        show Steps p.tables e below (T164.setTop (mkF m 221 #[.val (.int i1), .val (.int i2), .val (.int i3), .val (.int i4), .val (.int i5), .val (.int (3 : Int32)), .val (.int (0 : Int32)), .val (.int (6 : Int32)), .val (.int (i1 &&& (65535 : Int32))), .val (.int (i2 &&& (65535 : Int32))), .val (.int (i3 &&& (65535 : Int32))), .val (.ref b150), .val (.ref b164_0), .val (.int (own_j0_199_0 i1 i2))] [(.int (2 : Int32)), (.int (3 : Int32))])) _
        refine XS.icmpNo X164.here hx rfl (hb hby at_221) rfl (tlt (by decide : (2 : Int32) < (3 : Int32))).2.2.2 ?_
        show Steps p.tables e below (T164.setTop (mkF m 224 #[.val (.int i1), .val (.int i2), .val (.int i3), .val (.int i4), .val (.int i5), .val (.int (3 : Int32)), .val (.int (0 : Int32)), .val (.int (6 : Int32)), .val (.int (i1 &&& (65535 : Int32))), .val (.int (i2 &&& (65535 : Int32))), .val (.int (i3 &&& (65535 : Int32))), .val (.ref b150), .val (.ref b164_0), .val (.int (own_j0_199_0 i1 i2))] [])) _
        refine XS.iload X164.here hx rfl (hb hby at_224) rfl ?_
        exact k
      have pre190 : ∀ t, Steps p.tables e below (T164.setTop (mkF m 243 #[.val (.int i1), .val (.int i2), .val (.int i3), .val (.int i4), .val (.int i5), .val (.int (3 : Int32)), .val (.int (0 : Int32)), .val (.int (6 : Int32)), .val (.int (i1 &&& (65535 : Int32))), .val (.int (i2 &&& (65535 : Int32))), .val (.int (i3 &&& (65535 : Int32))), .val (.ref b150), .val (.ref b164_0), .val (.int (own_j0_199_0 i1 i2))] [(.int (own_j0_226_0 i1 i2 i3))])) t → Steps p.tables e below (s₁.setTop (entryFrame m #[(.int i1), (.int i2), (.int i3), (.int i4), (.int i5)] maxLocals)) t := by
        by_cases hc226_183 : (own_j0_199_0 i1 i2) = (0 : Int32)
        · have pre184 : ∀ t, Steps p.tables e below (T164.setTop (mkF m 243 #[.val (.int i1), .val (.int i2), .val (.int i3), .val (.int i4), .val (.int i5), .val (.int (3 : Int32)), .val (.int (0 : Int32)), .val (.int (6 : Int32)), .val (.int (i1 &&& (65535 : Int32))), .val (.int (i2 &&& (65535 : Int32))), .val (.int (i3 &&& (65535 : Int32))), .val (.ref b150), .val (.ref b164_0), .val (.int (own_j0_199_0 i1 i2))] [(.int (0 : Int32))])) t → Steps p.tables e below (s₁.setTop (entryFrame m #[(.int i1), (.int i2), (.int i3), (.int i4), (.int i5)] maxLocals)) t := by
            intro t k
            refine pre182 _ ?_
            show Steps p.tables e below (T164.setTop (mkF m 226 #[.val (.int i1), .val (.int i2), .val (.int i3), .val (.int i4), .val (.int i5), .val (.int (3 : Int32)), .val (.int (0 : Int32)), .val (.int (6 : Int32)), .val (.int (i1 &&& (65535 : Int32))), .val (.int (i2 &&& (65535 : Int32))), .val (.int (i3 &&& (65535 : Int32))), .val (.ref b150), .val (.ref b164_0), .val (.int (own_j0_199_0 i1 i2))] [(.int (own_j0_199_0 i1 i2))])) _
            refine XS.ifYes X164.here hx rfl (pc0 := 226) (pc' := 242) rfl (hb hby at_226) rfl ((if0 _ _).trans (teq hc226_183).1) (by decide) (by decide) ?_
            show Steps p.tables e below (T164.setTop (mkF m 242 #[.val (.int i1), .val (.int i2), .val (.int i3), .val (.int i4), .val (.int i5), .val (.int (3 : Int32)), .val (.int (0 : Int32)), .val (.int (6 : Int32)), .val (.int (i1 &&& (65535 : Int32))), .val (.int (i2 &&& (65535 : Int32))), .val (.int (i3 &&& (65535 : Int32))), .val (.ref b150), .val (.ref b164_0), .val (.int (own_j0_199_0 i1 i2))] [])) _
            refine XS.iconst X164.here hx rfl (hb hby at_242) ?_
            exact k
          exact fun t k => pre184 t (by rw [show (own_j0_226_0 i1 i2 i3) = (0 : Int32) from (if_pos hc226_183)] at k; exact k)
        · obtain ⟨cl185, Ar185, Cq185, Sz185, Nn185, Hh185, Gg185⟩ := id f164_0
          have hin185 : ¬ ((2 : Int32) < 0 ∨ cl185.slots.size ≤ ((2 : Int32)).toNatClampNeg) := inb_of Sz185 ⟨by decide, by decide⟩
          have hat185 : cl185.slots[((2 : Int32)).toNatClampNeg]? = some (.int (nar .char (((((nar .byte ((((i3 &&& (65535 : Int32)).toUInt32 >>> ((8 : Int32) &&& 31).toUInt32).toInt32).toInt8.toInt32)) &&& (255 : Int32)) <<< ((8 : Int32) &&& 31)) ||| ((nar .byte ((i3 &&& (65535 : Int32)).toInt8.toInt32)) &&& (255 : Int32))).toUInt32.toUInt16.toUInt32.toInt32))) := Hh185.at hin185 rfl
          have pre186 : ∀ t, Steps p.tables e below (T164.setTop (mkF m 235 #[.val (.int i1), .val (.int i2), .val (.int i3), .val (.int i4), .val (.int i5), .val (.int (3 : Int32)), .val (.int (0 : Int32)), .val (.int (6 : Int32)), .val (.int (i1 &&& (65535 : Int32))), .val (.int (i2 &&& (65535 : Int32))), .val (.int (i3 &&& (65535 : Int32))), .val (.ref b150), .val (.ref b164_0), .val (.int (own_j0_199_0 i1 i2))] [(.int (i3 &&& (65535 : Int32))), (.int (nar .char (((((nar .byte ((((i3 &&& (65535 : Int32)).toUInt32 >>> ((8 : Int32) &&& 31).toUInt32).toInt32).toInt8.toInt32)) &&& (255 : Int32)) <<< ((8 : Int32) &&& 31)) ||| ((nar .byte ((i3 &&& (65535 : Int32)).toInt8.toInt32)) &&& (255 : Int32))).toUInt32.toUInt16.toUInt32.toInt32)))])) t → Steps p.tables e below (s₁.setTop (entryFrame m #[(.int i1), (.int i2), (.int i3), (.int i4), (.int i5)] maxLocals)) t := by
            intro t k
            refine pre182 _ ?_
            show Steps p.tables e below (T164.setTop (mkF m 226 #[.val (.int i1), .val (.int i2), .val (.int i3), .val (.int i4), .val (.int i5), .val (.int (3 : Int32)), .val (.int (0 : Int32)), .val (.int (6 : Int32)), .val (.int (i1 &&& (65535 : Int32))), .val (.int (i2 &&& (65535 : Int32))), .val (.int (i3 &&& (65535 : Int32))), .val (.ref b150), .val (.ref b164_0), .val (.int (own_j0_199_0 i1 i2))] [(.int (own_j0_199_0 i1 i2))])) _
            refine XS.ifNo X164.here hx rfl (hb hby at_226) rfl ((if0 _ _).trans (feq hc226_183).1) ?_
            show Steps p.tables e below (T164.setTop (mkF m 229 #[.val (.int i1), .val (.int i2), .val (.int i3), .val (.int i4), .val (.int i5), .val (.int (3 : Int32)), .val (.int (0 : Int32)), .val (.int (6 : Int32)), .val (.int (i1 &&& (65535 : Int32))), .val (.int (i2 &&& (65535 : Int32))), .val (.int (i3 &&& (65535 : Int32))), .val (.ref b150), .val (.ref b164_0), .val (.int (own_j0_199_0 i1 i2))] [])) _
            refine XS.aload X164.here hx rfl (hb hby at_229) rfl rfl ?_
            show Steps p.tables e below (T164.setTop (mkF m 231 #[.val (.int i1), .val (.int i2), .val (.int i3), .val (.int i4), .val (.int i5), .val (.int (3 : Int32)), .val (.int (0 : Int32)), .val (.int (6 : Int32)), .val (.int (i1 &&& (65535 : Int32))), .val (.int (i2 &&& (65535 : Int32))), .val (.int (i3 &&& (65535 : Int32))), .val (.ref b150), .val (.ref b164_0), .val (.int (own_j0_199_0 i1 i2))] [(.ref b164_0)])) _
            refine XS.iconst X164.here hx rfl (hb hby at_231) ?_
            show Steps p.tables e below (T164.setTop (mkF m 232 #[.val (.int i1), .val (.int i2), .val (.int i3), .val (.int i4), .val (.int i5), .val (.int (3 : Int32)), .val (.int (0 : Int32)), .val (.int (6 : Int32)), .val (.int (i1 &&& (65535 : Int32))), .val (.int (i2 &&& (65535 : Int32))), .val (.int (i3 &&& (65535 : Int32))), .val (.ref b150), .val (.ref b164_0), .val (.int (own_j0_199_0 i1 i2))] [(.int (2 : Int32)), (.ref b164_0)])) _
            refine X164.caload hx (j := (2 : Int32)) (v := (.int (nar .char (((((nar .byte ((((i3 &&& (65535 : Int32)).toUInt32 >>> ((8 : Int32) &&& 31).toUInt32).toInt32).toInt8.toInt32)) &&& (255 : Int32)) <<< ((8 : Int32) &&& 31)) ||| ((nar .byte ((i3 &&& (65535 : Int32)).toInt8.toInt32)) &&& (255 : Int32))).toUInt32.toUInt16.toUInt32.toInt32)))) (by exact Ar185.1) (State.isArrayOf_alike hZ.alike Ar185.2.1) Ar185.2.2 hin185 hat185 (g := (mkF m 232 #[.val (.int i1), .val (.int i2), .val (.int i3), .val (.int i4), .val (.int i5), .val (.int (3 : Int32)), .val (.int (0 : Int32)), .val (.int (6 : Int32)), .val (.int (i1 &&& (65535 : Int32))), .val (.int (i2 &&& (65535 : Int32))), .val (.int (i3 &&& (65535 : Int32))), .val (.ref b150), .val (.ref b164_0), .val (.int (own_j0_199_0 i1 i2))] [(.int (2 : Int32)), (.ref b164_0)])) rfl rfl (hb hby at_232) _ ?_
            show Steps p.tables e below (T164.setTop (mkF m 233 #[.val (.int i1), .val (.int i2), .val (.int i3), .val (.int i4), .val (.int i5), .val (.int (3 : Int32)), .val (.int (0 : Int32)), .val (.int (6 : Int32)), .val (.int (i1 &&& (65535 : Int32))), .val (.int (i2 &&& (65535 : Int32))), .val (.int (i3 &&& (65535 : Int32))), .val (.ref b150), .val (.ref b164_0), .val (.int (own_j0_199_0 i1 i2))] [(.int (nar .char (((((nar .byte ((((i3 &&& (65535 : Int32)).toUInt32 >>> ((8 : Int32) &&& 31).toUInt32).toInt32).toInt8.toInt32)) &&& (255 : Int32)) <<< ((8 : Int32) &&& 31)) ||| ((nar .byte ((i3 &&& (65535 : Int32)).toInt8.toInt32)) &&& (255 : Int32))).toUInt32.toUInt16.toUInt32.toInt32)))])) _
            refine XS.iload X164.here hx rfl (hb hby at_233) rfl ?_
            exact k
          by_cases hc235_187 : (nar .char (((((nar .byte ((((i3 &&& (65535 : Int32)).toUInt32 >>> ((8 : Int32) &&& 31).toUInt32).toInt32).toInt8.toInt32)) &&& (255 : Int32)) <<< ((8 : Int32) &&& 31)) ||| ((nar .byte ((i3 &&& (65535 : Int32)).toInt8.toInt32)) &&& (255 : Int32))).toUInt32.toUInt16.toUInt32.toInt32)) = (i3 &&& (65535 : Int32))
          · have pre188 : ∀ t, Steps p.tables e below (T164.setTop (mkF m 243 #[.val (.int i1), .val (.int i2), .val (.int i3), .val (.int i4), .val (.int i5), .val (.int (3 : Int32)), .val (.int (0 : Int32)), .val (.int (6 : Int32)), .val (.int (i1 &&& (65535 : Int32))), .val (.int (i2 &&& (65535 : Int32))), .val (.int (i3 &&& (65535 : Int32))), .val (.ref b150), .val (.ref b164_0), .val (.int (own_j0_199_0 i1 i2))] [(.int (1 : Int32))])) t → Steps p.tables e below (s₁.setTop (entryFrame m #[(.int i1), (.int i2), (.int i3), (.int i4), (.int i5)] maxLocals)) t := by
              intro t k
              refine pre186 _ ?_
              show Steps p.tables e below (T164.setTop (mkF m 235 #[.val (.int i1), .val (.int i2), .val (.int i3), .val (.int i4), .val (.int i5), .val (.int (3 : Int32)), .val (.int (0 : Int32)), .val (.int (6 : Int32)), .val (.int (i1 &&& (65535 : Int32))), .val (.int (i2 &&& (65535 : Int32))), .val (.int (i3 &&& (65535 : Int32))), .val (.ref b150), .val (.ref b164_0), .val (.int (own_j0_199_0 i1 i2))] [(.int (i3 &&& (65535 : Int32))), (.int (nar .char (((((nar .byte ((((i3 &&& (65535 : Int32)).toUInt32 >>> ((8 : Int32) &&& 31).toUInt32).toInt32).toInt8.toInt32)) &&& (255 : Int32)) <<< ((8 : Int32) &&& 31)) ||| ((nar .byte ((i3 &&& (65535 : Int32)).toInt8.toInt32)) &&& (255 : Int32))).toUInt32.toUInt16.toUInt32.toInt32)))])) _
              refine XS.icmpNo X164.here hx rfl (hb hby at_235) rfl (teq hc235_187).2 ?_
              show Steps p.tables e below (T164.setTop (mkF m 238 #[.val (.int i1), .val (.int i2), .val (.int i3), .val (.int i4), .val (.int i5), .val (.int (3 : Int32)), .val (.int (0 : Int32)), .val (.int (6 : Int32)), .val (.int (i1 &&& (65535 : Int32))), .val (.int (i2 &&& (65535 : Int32))), .val (.int (i3 &&& (65535 : Int32))), .val (.ref b150), .val (.ref b164_0), .val (.int (own_j0_199_0 i1 i2))] [])) _
              refine XS.iconst X164.here hx rfl (hb hby at_238) ?_
              show Steps p.tables e below (T164.setTop (mkF m 239 #[.val (.int i1), .val (.int i2), .val (.int i3), .val (.int i4), .val (.int i5), .val (.int (3 : Int32)), .val (.int (0 : Int32)), .val (.int (6 : Int32)), .val (.int (i1 &&& (65535 : Int32))), .val (.int (i2 &&& (65535 : Int32))), .val (.int (i3 &&& (65535 : Int32))), .val (.ref b150), .val (.ref b164_0), .val (.int (own_j0_199_0 i1 i2))] [(.int (1 : Int32))])) _
              refine XS.goto X164.here hx rfl (pc0 := 239) (pc' := 243) rfl (hb hby at_239) (by decide) (by decide) ?_
              exact k
            exact fun t k => pre188 t (by rw [show (own_j0_226_0 i1 i2 i3) = (1 : Int32) from ((if_neg hc226_183).trans (if_pos hc235_187))] at k; exact k)
          · have pre189 : ∀ t, Steps p.tables e below (T164.setTop (mkF m 243 #[.val (.int i1), .val (.int i2), .val (.int i3), .val (.int i4), .val (.int i5), .val (.int (3 : Int32)), .val (.int (0 : Int32)), .val (.int (6 : Int32)), .val (.int (i1 &&& (65535 : Int32))), .val (.int (i2 &&& (65535 : Int32))), .val (.int (i3 &&& (65535 : Int32))), .val (.ref b150), .val (.ref b164_0), .val (.int (own_j0_199_0 i1 i2))] [(.int (0 : Int32))])) t → Steps p.tables e below (s₁.setTop (entryFrame m #[(.int i1), (.int i2), (.int i3), (.int i4), (.int i5)] maxLocals)) t := by
              intro t k
              refine pre186 _ ?_
              show Steps p.tables e below (T164.setTop (mkF m 235 #[.val (.int i1), .val (.int i2), .val (.int i3), .val (.int i4), .val (.int i5), .val (.int (3 : Int32)), .val (.int (0 : Int32)), .val (.int (6 : Int32)), .val (.int (i1 &&& (65535 : Int32))), .val (.int (i2 &&& (65535 : Int32))), .val (.int (i3 &&& (65535 : Int32))), .val (.ref b150), .val (.ref b164_0), .val (.int (own_j0_199_0 i1 i2))] [(.int (i3 &&& (65535 : Int32))), (.int (nar .char (((((nar .byte ((((i3 &&& (65535 : Int32)).toUInt32 >>> ((8 : Int32) &&& 31).toUInt32).toInt32).toInt8.toInt32)) &&& (255 : Int32)) <<< ((8 : Int32) &&& 31)) ||| ((nar .byte ((i3 &&& (65535 : Int32)).toInt8.toInt32)) &&& (255 : Int32))).toUInt32.toUInt16.toUInt32.toInt32)))])) _
              refine XS.icmpYes X164.here hx rfl (pc0 := 235) (pc' := 242) rfl (hb hby at_235) rfl (feq hc235_187).2 (by decide) (by decide) ?_
              show Steps p.tables e below (T164.setTop (mkF m 242 #[.val (.int i1), .val (.int i2), .val (.int i3), .val (.int i4), .val (.int i5), .val (.int (3 : Int32)), .val (.int (0 : Int32)), .val (.int (6 : Int32)), .val (.int (i1 &&& (65535 : Int32))), .val (.int (i2 &&& (65535 : Int32))), .val (.int (i3 &&& (65535 : Int32))), .val (.ref b150), .val (.ref b164_0), .val (.int (own_j0_199_0 i1 i2))] [])) _
              refine XS.iconst X164.here hx rfl (hb hby at_242) ?_
              exact k
            exact fun t k => pre189 t (by rw [show (own_j0_226_0 i1 i2 i3) = (0 : Int32) from ((if_neg hc226_183).trans (if_neg hc235_187))] at k; exact k)
      have pre191 : ∀ t, Steps p.tables e below (T164.setTop (mkF m 247 #[.val (.int i1), .val (.int i2), .val (.int i3), .val (.int i4), .val (.int i5), .val (.int (3 : Int32)), .val (.int (0 : Int32)), .val (.int (6 : Int32)), .val (.int (i1 &&& (65535 : Int32))), .val (.int (i2 &&& (65535 : Int32))), .val (.int (i3 &&& (65535 : Int32))), .val (.ref b150), .val (.ref b164_0), .val (.int (own_j0_226_0 i1 i2 i3))] [(.int (own_j0_226_0 i1 i2 i3))])) t → Steps p.tables e below (s₁.setTop (entryFrame m #[(.int i1), (.int i2), (.int i3), (.int i4), (.int i5)] maxLocals)) t := by
        intro t k
        refine pre190 _ ?_
        show Steps p.tables e below (T164.setTop (mkF m 243 #[.val (.int i1), .val (.int i2), .val (.int i3), .val (.int i4), .val (.int i5), .val (.int (3 : Int32)), .val (.int (0 : Int32)), .val (.int (6 : Int32)), .val (.int (i1 &&& (65535 : Int32))), .val (.int (i2 &&& (65535 : Int32))), .val (.int (i3 &&& (65535 : Int32))), .val (.ref b150), .val (.ref b164_0), .val (.int (own_j0_199_0 i1 i2))] [(.int (own_j0_226_0 i1 i2 i3))])) _
        refine XS.istore X164.here hx rfl (hb hby at_243) rfl (l' := #[.val (.int i1), .val (.int i2), .val (.int i3), .val (.int i4), .val (.int i5), .val (.int (3 : Int32)), .val (.int (0 : Int32)), .val (.int (6 : Int32)), .val (.int (i1 &&& (65535 : Int32))), .val (.int (i2 &&& (65535 : Int32))), .val (.int (i3 &&& (65535 : Int32))), .val (.ref b150), .val (.ref b164_0), .val (.int (own_j0_226_0 i1 i2 i3))]) rfl ?_
        show Steps p.tables e below (T164.setTop (mkF m 245 #[.val (.int i1), .val (.int i2), .val (.int i3), .val (.int i4), .val (.int i5), .val (.int (3 : Int32)), .val (.int (0 : Int32)), .val (.int (6 : Int32)), .val (.int (i1 &&& (65535 : Int32))), .val (.int (i2 &&& (65535 : Int32))), .val (.int (i3 &&& (65535 : Int32))), .val (.ref b150), .val (.ref b164_0), .val (.int (own_j0_226_0 i1 i2 i3))] [])) _
        refine XS.iload X164.here hx rfl (hb hby at_245) rfl ?_
        exact k
      obtain ⟨fs, hr, hrun, hended, hW, hsame⟩ := X164.leave (v := some (.int (nar .boolean (own_j0_226_0 i1 i2 i3)))) (fun h => by rw [Bd.returns] at h; cases h)
      refine ⟨_, _, pre191 _ ?_, hrun, hended, _, _, rfl, ?_, ⟨_, rfl⟩, hW, hsame.mono (by decide) (by decide)⟩
      · show Steps p.tables e below (T164.setTop (mkF m 247 #[.val (.int i1), .val (.int i2), .val (.int i3), .val (.int i4), .val (.int i5), .val (.int (3 : Int32)), .val (.int (0 : Int32)), .val (.int (6 : Int32)), .val (.int (i1 &&& (65535 : Int32))), .val (.int (i2 &&& (65535 : Int32))), .val (.int (i3 &&& (65535 : Int32))), .val (.ref b150), .val (.ref b164_0), .val (.int (own_j0_226_0 i1 i2 i3))] [(.int (own_j0_226_0 i1 i2 i3))])) _
        exact retN X164 hx (t := .boolean) Bd.returns (by simp) (hb hby at_247) hr
      · show Q0 Z i1 i2 i3 i4 i5 h0 n0 _ T164.heap _
        exact ⟨congrArg (fun z => some (Value.int z)) (show (own_r0 i1 i2 i3 i5) = (nar .boolean (own_j0_226_0 i1 i2 i3)) from ((if_neg (by rw [hk2]; decide)).trans ((if_neg (by rw [hk2]; decide)).trans ((if_neg (by rw [hk2]; decide)).trans (if_pos hk148))))).symm, N164⟩
    · have pre192 : ∀ t, Steps p.tables e below (s₁.setTop (mkF m 22 #[.val (.int i1), .val (.int i2), .val (.int i3), .val (.int i4), .val (.int i5), .val (.int (3 : Int32)), .val (.int (1 : Int32)), .unset, .unset, .unset, .unset, .unset, .unset, .unset] [])) t → Steps p.tables e below (s₁.setTop (entryFrame m #[(.int i1), (.int i2), (.int i3), (.int i4), (.int i5)] maxLocals)) t := fun t k => pre147 t (by rw [hk148]; exact k)
      obtain ⟨T193, h193, k193, X193, e193, E193, A193, st193⟩ := newP X0 hx hZ (hw _ (List.mem_of_getElem? (i := 1) rfl)) e0 (g := (mkF m 59 #[.val (.int i1), .val (.int i2), .val (.int i3), .val (.int i4), .val (.int i5), .val (.int (3 : Int32)), .val (.int (1 : Int32)), .val (.int (7 : Int32)), .val (.int (i1 &&& (65535 : Int32))), .val (.int (i2 &&& (65535 : Int32))), .val (.int (i3 &&& (65535 : Int32))), .unset, .unset, .unset] [(.int (7 : Int32))])) rfl (hb hby at_59) rfl (by decide) (cap := 7) (by decide) (by decide) (by decide) (by decide)
      obtain ⟨b193, g193⟩ : ∃ z, z = h0.size := ⟨_, rfl⟩
      rw [← g193] at A193 st193
      have sz_b193 : h0.size ≤ b193 := Nat.le_trans (Keep.refl h0 []).1 (Nat.le_of_eq g193.symm)
      have K194 : Keep h0 h193 [] := (Keep.refl h0 []).ext E193
      have V193 : Arv Z h193 b193 k193 .byte (7 : Int32) [(.int (0 : Int32)), (.int (0 : Int32)), (.int (0 : Int32)), (.int (0 : Int32)), (.int (0 : Int32)), (.int (0 : Int32)), (.int (0 : Int32))] (.int (0 : Int32)) := (Arv.new A193 (by decide)).pad (pad_rep [] (.int (0 : Int32)) 7)
      obtain ⟨cl195, Ar195, Cq195, Sz195, Nn195, Hh195, Gg195⟩ := id V193
      have hin195 : ¬ ((0 : Int32) < 0 ∨ cl195.slots.size ≤ ((0 : Int32)).toNatClampNeg) := inb_of Sz195 ⟨by decide, by decide⟩
      obtain ⟨T195, h195, X195, e195, W195, st195⟩ := stB X193 hx hZ e193 Ar195 (j := (0 : Int32)) hin195 (g := (mkF m 77 #[.val (.int i1), .val (.int i2), .val (.int i3), .val (.int i4), .val (.int i5), .val (.int (3 : Int32)), .val (.int (1 : Int32)), .val (.int (7 : Int32)), .val (.int (i1 &&& (65535 : Int32))), .val (.int (i2 &&& (65535 : Int32))), .val (.int (i3 &&& (65535 : Int32))), .val (.ref b193), .unset, .unset] [(.int ((((i1 &&& (65535 : Int32)).toUInt32 >>> ((8 : Int32) &&& 31).toUInt32).toInt32).toInt8.toInt32)), (.int (0 : Int32)), (.ref b193)])) rfl rfl (hb hby at_77)
      have V195 : Arv Z h195 b193 k193 .byte (7 : Int32) [(.int (nar .byte ((((i1 &&& (65535 : Int32)).toUInt32 >>> ((8 : Int32) &&& 31).toUInt32).toInt32).toInt8.toInt32))), (.int (0 : Int32)), (.int (0 : Int32)), (.int (0 : Int32)), (.int (0 : Int32)), (.int (0 : Int32)), (.int (0 : Int32))] (.int (0 : Int32)) := Arv.set Ar195 Cq195 Sz195 Nn195 Hh195 Gg195 (fits_nar_byte _) W195 0 rfl (Nat.le_of_ble_eq_true rfl)
      have N195 := Fr.snoc X195 N0 (Nat.le_trans Z0 sz_b193)
      have K196 : Keep h0 h195 [] := K194.wr W195 (Or.inr sz_b193)
      obtain ⟨cl197, Ar197, Cq197, Sz197, Nn197, Hh197, Gg197⟩ := id V195
      have hin197 : ¬ ((1 : Int32) < 0 ∨ cl197.slots.size ≤ ((1 : Int32)).toNatClampNeg) := inb_of Sz197 ⟨by decide, by decide⟩
      obtain ⟨T197, h197, X197, e197, W197, st197⟩ := stB X195 hx hZ e195 Ar197 (j := (1 : Int32)) hin197 (g := (mkF m 84 #[.val (.int i1), .val (.int i2), .val (.int i3), .val (.int i4), .val (.int i5), .val (.int (3 : Int32)), .val (.int (1 : Int32)), .val (.int (7 : Int32)), .val (.int (i1 &&& (65535 : Int32))), .val (.int (i2 &&& (65535 : Int32))), .val (.int (i3 &&& (65535 : Int32))), .val (.ref b193), .unset, .unset] [(.int ((i1 &&& (65535 : Int32)).toInt8.toInt32)), (.int (1 : Int32)), (.ref b193)])) rfl rfl (hb hby at_84)
      have V197 : Arv Z h197 b193 k193 .byte (7 : Int32) [(.int (nar .byte ((((i1 &&& (65535 : Int32)).toUInt32 >>> ((8 : Int32) &&& 31).toUInt32).toInt32).toInt8.toInt32))), (.int (nar .byte ((i1 &&& (65535 : Int32)).toInt8.toInt32))), (.int (0 : Int32)), (.int (0 : Int32)), (.int (0 : Int32)), (.int (0 : Int32)), (.int (0 : Int32))] (.int (0 : Int32)) := Arv.set Ar197 Cq197 Sz197 Nn197 Hh197 Gg197 (fits_nar_byte _) W197 1 rfl (Nat.le_of_ble_eq_true rfl)
      have N197 := Fr.snoc X197 N195 (Nat.le_trans Z0 sz_b193)
      have K198 : Keep h0 h197 [] := K196.wr W197 (Or.inr sz_b193)
      obtain ⟨cl199, Ar199, Cq199, Sz199, Nn199, Hh199, Gg199⟩ := id V197
      have hin199 : ¬ ((2 : Int32) < 0 ∨ cl199.slots.size ≤ ((2 : Int32)).toNatClampNeg) := inb_of Sz199 ⟨by decide, by decide⟩
      obtain ⟨T199, h199, X199, e199, W199, st199⟩ := stB X197 hx hZ e197 Ar199 (j := (2 : Int32)) hin199 (g := (mkF m 100 #[.val (.int i1), .val (.int i2), .val (.int i3), .val (.int i4), .val (.int i5), .val (.int (3 : Int32)), .val (.int (1 : Int32)), .val (.int (7 : Int32)), .val (.int (i1 &&& (65535 : Int32))), .val (.int (i2 &&& (65535 : Int32))), .val (.int (i3 &&& (65535 : Int32))), .val (.ref b193), .unset, .unset] [(.int ((((i2 &&& (65535 : Int32)).toUInt32 >>> ((8 : Int32) &&& 31).toUInt32).toInt32).toInt8.toInt32)), (.int (2 : Int32)), (.ref b193)])) rfl rfl (hb hby at_100)
      have V199 : Arv Z h199 b193 k193 .byte (7 : Int32) [(.int (nar .byte ((((i1 &&& (65535 : Int32)).toUInt32 >>> ((8 : Int32) &&& 31).toUInt32).toInt32).toInt8.toInt32))), (.int (nar .byte ((i1 &&& (65535 : Int32)).toInt8.toInt32))), (.int (nar .byte ((((i2 &&& (65535 : Int32)).toUInt32 >>> ((8 : Int32) &&& 31).toUInt32).toInt32).toInt8.toInt32))), (.int (0 : Int32)), (.int (0 : Int32)), (.int (0 : Int32)), (.int (0 : Int32))] (.int (0 : Int32)) := Arv.set Ar199 Cq199 Sz199 Nn199 Hh199 Gg199 (fits_nar_byte _) W199 2 rfl (Nat.le_of_ble_eq_true rfl)
      have N199 := Fr.snoc X199 N197 (Nat.le_trans Z0 sz_b193)
      have K200 : Keep h0 h199 [] := K198.wr W199 (Or.inr sz_b193)
      obtain ⟨cl201, Ar201, Cq201, Sz201, Nn201, Hh201, Gg201⟩ := id V199
      have hin201 : ¬ ((3 : Int32) < 0 ∨ cl201.slots.size ≤ ((3 : Int32)).toNatClampNeg) := inb_of Sz201 ⟨by decide, by decide⟩
      obtain ⟨T201, h201, X201, e201, W201, st201⟩ := stB X199 hx hZ e199 Ar201 (j := (3 : Int32)) hin201 (g := (mkF m 107 #[.val (.int i1), .val (.int i2), .val (.int i3), .val (.int i4), .val (.int i5), .val (.int (3 : Int32)), .val (.int (1 : Int32)), .val (.int (7 : Int32)), .val (.int (i1 &&& (65535 : Int32))), .val (.int (i2 &&& (65535 : Int32))), .val (.int (i3 &&& (65535 : Int32))), .val (.ref b193), .unset, .unset] [(.int ((i2 &&& (65535 : Int32)).toInt8.toInt32)), (.int (3 : Int32)), (.ref b193)])) rfl rfl (hb hby at_107)
      have V201 : Arv Z h201 b193 k193 .byte (7 : Int32) [(.int (nar .byte ((((i1 &&& (65535 : Int32)).toUInt32 >>> ((8 : Int32) &&& 31).toUInt32).toInt32).toInt8.toInt32))), (.int (nar .byte ((i1 &&& (65535 : Int32)).toInt8.toInt32))), (.int (nar .byte ((((i2 &&& (65535 : Int32)).toUInt32 >>> ((8 : Int32) &&& 31).toUInt32).toInt32).toInt8.toInt32))), (.int (nar .byte ((i2 &&& (65535 : Int32)).toInt8.toInt32))), (.int (0 : Int32)), (.int (0 : Int32)), (.int (0 : Int32))] (.int (0 : Int32)) := Arv.set Ar201 Cq201 Sz201 Nn201 Hh201 Gg201 (fits_nar_byte _) W201 3 rfl (Nat.le_of_ble_eq_true rfl)
      have N201 := Fr.snoc X201 N199 (Nat.le_trans Z0 sz_b193)
      have K202 : Keep h0 h201 [] := K200.wr W201 (Or.inr sz_b193)
      obtain ⟨cl203, Ar203, Cq203, Sz203, Nn203, Hh203, Gg203⟩ := id V201
      have hin203 : ¬ ((4 : Int32) < 0 ∨ cl203.slots.size ≤ ((4 : Int32)).toNatClampNeg) := inb_of Sz203 ⟨by decide, by decide⟩
      obtain ⟨T203, h203, X203, e203, W203, st203⟩ := stB X201 hx hZ e201 Ar203 (j := (4 : Int32)) hin203 (g := (mkF m 123 #[.val (.int i1), .val (.int i2), .val (.int i3), .val (.int i4), .val (.int i5), .val (.int (3 : Int32)), .val (.int (1 : Int32)), .val (.int (7 : Int32)), .val (.int (i1 &&& (65535 : Int32))), .val (.int (i2 &&& (65535 : Int32))), .val (.int (i3 &&& (65535 : Int32))), .val (.ref b193), .unset, .unset] [(.int ((((i3 &&& (65535 : Int32)).toUInt32 >>> ((8 : Int32) &&& 31).toUInt32).toInt32).toInt8.toInt32)), (.int (4 : Int32)), (.ref b193)])) rfl rfl (hb hby at_123)
      have V203 : Arv Z h203 b193 k193 .byte (7 : Int32) [(.int (nar .byte ((((i1 &&& (65535 : Int32)).toUInt32 >>> ((8 : Int32) &&& 31).toUInt32).toInt32).toInt8.toInt32))), (.int (nar .byte ((i1 &&& (65535 : Int32)).toInt8.toInt32))), (.int (nar .byte ((((i2 &&& (65535 : Int32)).toUInt32 >>> ((8 : Int32) &&& 31).toUInt32).toInt32).toInt8.toInt32))), (.int (nar .byte ((i2 &&& (65535 : Int32)).toInt8.toInt32))), (.int (nar .byte ((((i3 &&& (65535 : Int32)).toUInt32 >>> ((8 : Int32) &&& 31).toUInt32).toInt32).toInt8.toInt32))), (.int (0 : Int32)), (.int (0 : Int32))] (.int (0 : Int32)) := Arv.set Ar203 Cq203 Sz203 Nn203 Hh203 Gg203 (fits_nar_byte _) W203 4 rfl (Nat.le_of_ble_eq_true rfl)
      have N203 := Fr.snoc X203 N201 (Nat.le_trans Z0 sz_b193)
      have K204 : Keep h0 h203 [] := K202.wr W203 (Or.inr sz_b193)
      obtain ⟨cl205, Ar205, Cq205, Sz205, Nn205, Hh205, Gg205⟩ := id V203
      have hin205 : ¬ ((5 : Int32) < 0 ∨ cl205.slots.size ≤ ((5 : Int32)).toNatClampNeg) := inb_of Sz205 ⟨by decide, by decide⟩
      obtain ⟨T205, h205, X205, e205, W205, st205⟩ := stB X203 hx hZ e203 Ar205 (j := (5 : Int32)) hin205 (g := (mkF m 130 #[.val (.int i1), .val (.int i2), .val (.int i3), .val (.int i4), .val (.int i5), .val (.int (3 : Int32)), .val (.int (1 : Int32)), .val (.int (7 : Int32)), .val (.int (i1 &&& (65535 : Int32))), .val (.int (i2 &&& (65535 : Int32))), .val (.int (i3 &&& (65535 : Int32))), .val (.ref b193), .unset, .unset] [(.int ((i3 &&& (65535 : Int32)).toInt8.toInt32)), (.int (5 : Int32)), (.ref b193)])) rfl rfl (hb hby at_130)
      have V205 : Arv Z h205 b193 k193 .byte (7 : Int32) [(.int (nar .byte ((((i1 &&& (65535 : Int32)).toUInt32 >>> ((8 : Int32) &&& 31).toUInt32).toInt32).toInt8.toInt32))), (.int (nar .byte ((i1 &&& (65535 : Int32)).toInt8.toInt32))), (.int (nar .byte ((((i2 &&& (65535 : Int32)).toUInt32 >>> ((8 : Int32) &&& 31).toUInt32).toInt32).toInt8.toInt32))), (.int (nar .byte ((i2 &&& (65535 : Int32)).toInt8.toInt32))), (.int (nar .byte ((((i3 &&& (65535 : Int32)).toUInt32 >>> ((8 : Int32) &&& 31).toUInt32).toInt32).toInt8.toInt32))), (.int (nar .byte ((i3 &&& (65535 : Int32)).toInt8.toInt32))), (.int (0 : Int32))] (.int (0 : Int32)) := Arv.set Ar205 Cq205 Sz205 Nn205 Hh205 Gg205 (fits_nar_byte _) W205 5 rfl (Nat.le_of_ble_eq_true rfl)
      have N205 := Fr.snoc X205 N203 (Nat.le_trans Z0 sz_b193)
      have K206 : Keep h0 h205 [] := K204.wr W205 (Or.inr sz_b193)
      obtain ⟨cl207, Ar207, Cq207, Sz207, Nn207, Hh207, Gg207⟩ := id V205
      have hin207 : ¬ ((6 : Int32) < 0 ∨ cl207.slots.size ≤ ((6 : Int32)).toNatClampNeg) := inb_of Sz207 ⟨by decide, by decide⟩
      obtain ⟨T207, h207, X207, e207, W207, st207⟩ := stB X205 hx hZ e205 Ar207 (j := (6 : Int32)) hin207 (g := (mkF m 144 #[.val (.int i1), .val (.int i2), .val (.int i3), .val (.int i4), .val (.int i5), .val (.int (3 : Int32)), .val (.int (1 : Int32)), .val (.int (7 : Int32)), .val (.int (i1 &&& (65535 : Int32))), .val (.int (i2 &&& (65535 : Int32))), .val (.int (i3 &&& (65535 : Int32))), .val (.ref b193), .unset, .unset] [(.int (i4.toInt8.toInt32)), (.int (6 : Int32)), (.ref b193)])) rfl rfl (hb hby at_144)
      have V207 : Arv Z h207 b193 k193 .byte (7 : Int32) [(.int (nar .byte ((((i1 &&& (65535 : Int32)).toUInt32 >>> ((8 : Int32) &&& 31).toUInt32).toInt32).toInt8.toInt32))), (.int (nar .byte ((i1 &&& (65535 : Int32)).toInt8.toInt32))), (.int (nar .byte ((((i2 &&& (65535 : Int32)).toUInt32 >>> ((8 : Int32) &&& 31).toUInt32).toInt32).toInt8.toInt32))), (.int (nar .byte ((i2 &&& (65535 : Int32)).toInt8.toInt32))), (.int (nar .byte ((((i3 &&& (65535 : Int32)).toUInt32 >>> ((8 : Int32) &&& 31).toUInt32).toInt32).toInt8.toInt32))), (.int (nar .byte ((i3 &&& (65535 : Int32)).toInt8.toInt32))), (.int (nar .byte (i4.toInt8.toInt32)))] (.int (0 : Int32)) := Arv.set Ar207 Cq207 Sz207 Nn207 Hh207 Gg207 (fits_nar_byte _) W207 6 rfl (Nat.le_of_ble_eq_true rfl)
      have N207 := Fr.snoc X207 N205 (Nat.le_trans Z0 sz_b193)
      have K208 : Keep h0 h207 [] := K206.wr W207 (Or.inr sz_b193)
      obtain ⟨_, _, ⟨T209, L209, k209, n209⟩, -, X209, ⟨Lc209, hQ209, l209, y209, z209⟩, st209⟩ := Jvm.LawKit.callS X207 hx (y := (⟨"com/example/aschenputtel/aschenputtel/values/UcaWeights", "keyCharacters", "([B)[C"⟩ : MethodName)) hown (mvT hZ (hw _ (List.mem_of_getElem? (i := 2) rfl))) (mvT hZ (hw _ (List.mem_of_getElem? (i := 3) rfl))) (mvT hZ (hw _ (List.mem_of_getElem? (i := 4) rfl))) (mvT hZ (hw _ (List.mem_of_getElem? (i := 5) rfl))) (by decide) (backOf (W := 0) (rm1g l Z a0 hw [] b193 (nar .byte ((((i1 &&& (65535 : Int32)).toUInt32 >>> ((8 : Int32) &&& 31).toUInt32).toInt32).toInt8.toInt32)) (nar .byte ((i1 &&& (65535 : Int32)).toInt8.toInt32)) (nar .byte ((((i2 &&& (65535 : Int32)).toUInt32 >>> ((8 : Int32) &&& 31).toUInt32).toInt32).toInt8.toInt32)) (nar .byte ((i2 &&& (65535 : Int32)).toInt8.toInt32)) (nar .byte ((((i3 &&& (65535 : Int32)).toUInt32 >>> ((8 : Int32) &&& 31).toUInt32).toInt32).toInt8.toInt32)) (nar .byte ((i3 &&& (65535 : Int32)).toInt8.toInt32)) (nar .byte (i4.toInt8.toInt32)) k193 h207 n0 (Nat.le_trans Z0 K208.1) V207) hZ (hw _ (List.mem_of_getElem? (i := 5) rfl)) (hw _ (List.mem_of_getElem? (i := 4) rfl)) (by decide) (by decide)) (g := (mkF m 147 #[.val (.int i1), .val (.int i2), .val (.int i3), .val (.int i4), .val (.int i5), .val (.int (3 : Int32)), .val (.int (1 : Int32)), .val (.int (7 : Int32)), .val (.int (i1 &&& (65535 : Int32))), .val (.int (i2 &&& (65535 : Int32))), .val (.int (i3 &&& (65535 : Int32))), .val (.ref b193), .unset, .unset] [(.ref b193)])) rfl (by rw [hml]; rfl) (argsL := [(.ref b193)]) (rest := []) (lenOf pd_0 rfl) rfl (by show 2 * 0 + _ ≤ _; exact Nat.le_of_eq rfl) (hb hby at_147) (fun _ _ => ⟨rfl, e207, (by decide : 1 + 1 ≤ _), (by decide : 7 + 3 ≤ _)⟩)
      dsimp only [Pt.U, Pt.locs, Pt.cells, Pt.slots] at X209 l209 y209 z209 st209 hQ209
      subst l209 y209 z209
      obtain ⟨b209_0, k209_1, rfl, Nq209, Kq209, sq209_0, f209_0⟩ := hQ209
      have sz_b209_0 : h0.size ≤ b209_0 := Nat.le_trans K208.1 sq209_0
      have K210 : Keep h0 T209.heap [] := K208.trans Kq209 all0
      have N209 := Fr.app N207 Nq209
      obtain ⟨cl211, Ar211, -, Sz211, Nn211, -, -⟩ := id f209_0
      obtain ⟨cl212, Ar212, Cq212, Sz212, Nn212, Hh212, Gg212⟩ := id f209_0
      have hin212 : ¬ ((0 : Int32) < 0 ∨ cl212.slots.size ≤ ((0 : Int32)).toNatClampNeg) := inb_of Sz212 ⟨by decide, by decide⟩
      have hat212 : cl212.slots[((0 : Int32)).toNatClampNeg]? = some (.int (nar .char (((((nar .byte ((((i1 &&& (65535 : Int32)).toUInt32 >>> ((8 : Int32) &&& 31).toUInt32).toInt32).toInt8.toInt32)) &&& (255 : Int32)) <<< ((8 : Int32) &&& 31)) ||| ((nar .byte ((i1 &&& (65535 : Int32)).toInt8.toInt32)) &&& (255 : Int32))).toUInt32.toUInt16.toUInt32.toInt32))) := Hh212.at hin212 rfl
      have pre213 : ∀ t, Steps p.tables e below (T209.setTop (mkF m 181 #[.val (.int i1), .val (.int i2), .val (.int i3), .val (.int i4), .val (.int i5), .val (.int (3 : Int32)), .val (.int (1 : Int32)), .val (.int (7 : Int32)), .val (.int (i1 &&& (65535 : Int32))), .val (.int (i2 &&& (65535 : Int32))), .val (.int (i3 &&& (65535 : Int32))), .val (.ref b193), .val (.ref b209_0), .val (.int (1 : Int32))] [(.int (i1 &&& (65535 : Int32))), (.int (nar .char (((((nar .byte ((((i1 &&& (65535 : Int32)).toUInt32 >>> ((8 : Int32) &&& 31).toUInt32).toInt32).toInt8.toInt32)) &&& (255 : Int32)) <<< ((8 : Int32) &&& 31)) ||| ((nar .byte ((i1 &&& (65535 : Int32)).toInt8.toInt32)) &&& (255 : Int32))).toUInt32.toUInt16.toUInt32.toInt32)))])) t → Steps p.tables e below (s₁.setTop (entryFrame m #[(.int i1), (.int i2), (.int i3), (.int i4), (.int i5)] maxLocals)) t := by
        intro t k
        refine pre192 _ ?_
        show Steps p.tables e below (s₁.setTop (mkF m 22 #[.val (.int i1), .val (.int i2), .val (.int i3), .val (.int i4), .val (.int i5), .val (.int (3 : Int32)), .val (.int (1 : Int32)), .unset, .unset, .unset, .unset, .unset, .unset, .unset] [])) _
        refine XS.iconst X0.here hx rfl (hb hby at_22) ?_
        show Steps p.tables e below (s₁.setTop (mkF m 23 #[.val (.int i1), .val (.int i2), .val (.int i3), .val (.int i4), .val (.int i5), .val (.int (3 : Int32)), .val (.int (1 : Int32)), .unset, .unset, .unset, .unset, .unset, .unset, .unset] [(.int (2 : Int32))])) _
        refine XS.iload X0.here hx rfl (hb hby at_23) rfl ?_
        show Steps p.tables e below (s₁.setTop (mkF m 25 #[.val (.int i1), .val (.int i2), .val (.int i3), .val (.int i4), .val (.int i5), .val (.int (3 : Int32)), .val (.int (1 : Int32)), .unset, .unset, .unset, .unset, .unset, .unset, .unset] [(.int (3 : Int32)), (.int (2 : Int32))])) _
        refine XS.imul X0.here hx rfl (hb hby at_25) rfl ?_
        show Steps p.tables e below (s₁.setTop (mkF m 26 #[.val (.int i1), .val (.int i2), .val (.int i3), .val (.int i4), .val (.int i5), .val (.int (3 : Int32)), .val (.int (1 : Int32)), .unset, .unset, .unset, .unset, .unset, .unset, .unset] [(.int (6 : Int32))])) _
        refine XS.iload X0.here hx rfl (hb hby at_26) rfl ?_
        show Steps p.tables e below (s₁.setTop (mkF m 28 #[.val (.int i1), .val (.int i2), .val (.int i3), .val (.int i4), .val (.int i5), .val (.int (3 : Int32)), .val (.int (1 : Int32)), .unset, .unset, .unset, .unset, .unset, .unset, .unset] [(.int (1 : Int32)), (.int (6 : Int32))])) _
        refine XS.ifNo X0.here hx rfl (hb hby at_28) rfl ((if0 _ _).trans (feq (by decide : ¬ ((1 : Int32) = (0 : Int32)))).1) ?_
        show Steps p.tables e below (s₁.setTop (mkF m 31 #[.val (.int i1), .val (.int i2), .val (.int i3), .val (.int i4), .val (.int i5), .val (.int (3 : Int32)), .val (.int (1 : Int32)), .unset, .unset, .unset, .unset, .unset, .unset, .unset] [(.int (6 : Int32))])) _
        refine XS.iconst X0.here hx rfl (hb hby at_31) ?_
        show Steps p.tables e below (s₁.setTop (mkF m 32 #[.val (.int i1), .val (.int i2), .val (.int i3), .val (.int i4), .val (.int i5), .val (.int (3 : Int32)), .val (.int (1 : Int32)), .unset, .unset, .unset, .unset, .unset, .unset, .unset] [(.int (1 : Int32)), (.int (6 : Int32))])) _
        refine XS.goto X0.here hx rfl (pc0 := 32) (pc' := 36) rfl (hb hby at_32) (by decide) (by decide) ?_
        show Steps p.tables e below (s₁.setTop (mkF m 36 #[.val (.int i1), .val (.int i2), .val (.int i3), .val (.int i4), .val (.int i5), .val (.int (3 : Int32)), .val (.int (1 : Int32)), .unset, .unset, .unset, .unset, .unset, .unset, .unset] [(.int (1 : Int32)), (.int (6 : Int32))])) _
        refine XS.iadd X0.here hx rfl (hb hby at_36) rfl ?_
        show Steps p.tables e below (s₁.setTop (mkF m 37 #[.val (.int i1), .val (.int i2), .val (.int i3), .val (.int i4), .val (.int i5), .val (.int (3 : Int32)), .val (.int (1 : Int32)), .unset, .unset, .unset, .unset, .unset, .unset, .unset] [(.int (7 : Int32))])) _
        refine XS.istore X0.here hx rfl (hb hby at_37) rfl (l' := #[.val (.int i1), .val (.int i2), .val (.int i3), .val (.int i4), .val (.int i5), .val (.int (3 : Int32)), .val (.int (1 : Int32)), .val (.int (7 : Int32)), .unset, .unset, .unset, .unset, .unset, .unset]) rfl ?_
        show Steps p.tables e below (s₁.setTop (mkF m 39 #[.val (.int i1), .val (.int i2), .val (.int i3), .val (.int i4), .val (.int i5), .val (.int (3 : Int32)), .val (.int (1 : Int32)), .val (.int (7 : Int32)), .unset, .unset, .unset, .unset, .unset, .unset] [])) _
        refine XS.iloadN X0.here hx rfl (hb hby at_39) rfl ?_
        show Steps p.tables e below (s₁.setTop (mkF m 40 #[.val (.int i1), .val (.int i2), .val (.int i3), .val (.int i4), .val (.int i5), .val (.int (3 : Int32)), .val (.int (1 : Int32)), .val (.int (7 : Int32)), .unset, .unset, .unset, .unset, .unset, .unset] [(.int i1)])) _
        refine X0.ldcInt hx hown (mvT hZ (hw _ (List.mem_of_getElem? (i := 0) rfl))) (g := (mkF m 40 #[.val (.int i1), .val (.int i2), .val (.int i3), .val (.int i4), .val (.int i5), .val (.int (3 : Int32)), .val (.int (1 : Int32)), .val (.int (7 : Int32)), .unset, .unset, .unset, .unset, .unset, .unset] [(.int i1)])) rfl (hb hby at_40) _ ?_
        show Steps p.tables e below (s₁.setTop (mkF m 42 #[.val (.int i1), .val (.int i2), .val (.int i3), .val (.int i4), .val (.int i5), .val (.int (3 : Int32)), .val (.int (1 : Int32)), .val (.int (7 : Int32)), .unset, .unset, .unset, .unset, .unset, .unset] [(.int (65535 : Int32)), (.int i1)])) _
        refine XS.iand X0.here hx rfl (hb hby at_42) rfl ?_
        show Steps p.tables e below (s₁.setTop (mkF m 43 #[.val (.int i1), .val (.int i2), .val (.int i3), .val (.int i4), .val (.int i5), .val (.int (3 : Int32)), .val (.int (1 : Int32)), .val (.int (7 : Int32)), .unset, .unset, .unset, .unset, .unset, .unset] [(.int (i1 &&& (65535 : Int32)))])) _
        refine XS.istore X0.here hx rfl (hb hby at_43) rfl (l' := #[.val (.int i1), .val (.int i2), .val (.int i3), .val (.int i4), .val (.int i5), .val (.int (3 : Int32)), .val (.int (1 : Int32)), .val (.int (7 : Int32)), .val (.int (i1 &&& (65535 : Int32))), .unset, .unset, .unset, .unset, .unset]) rfl ?_
        show Steps p.tables e below (s₁.setTop (mkF m 45 #[.val (.int i1), .val (.int i2), .val (.int i3), .val (.int i4), .val (.int i5), .val (.int (3 : Int32)), .val (.int (1 : Int32)), .val (.int (7 : Int32)), .val (.int (i1 &&& (65535 : Int32))), .unset, .unset, .unset, .unset, .unset] [])) _
        refine XS.iloadN X0.here hx rfl (hb hby at_45) rfl ?_
        show Steps p.tables e below (s₁.setTop (mkF m 46 #[.val (.int i1), .val (.int i2), .val (.int i3), .val (.int i4), .val (.int i5), .val (.int (3 : Int32)), .val (.int (1 : Int32)), .val (.int (7 : Int32)), .val (.int (i1 &&& (65535 : Int32))), .unset, .unset, .unset, .unset, .unset] [(.int i2)])) _
        refine X0.ldcInt hx hown (mvT hZ (hw _ (List.mem_of_getElem? (i := 0) rfl))) (g := (mkF m 46 #[.val (.int i1), .val (.int i2), .val (.int i3), .val (.int i4), .val (.int i5), .val (.int (3 : Int32)), .val (.int (1 : Int32)), .val (.int (7 : Int32)), .val (.int (i1 &&& (65535 : Int32))), .unset, .unset, .unset, .unset, .unset] [(.int i2)])) rfl (hb hby at_46) _ ?_
        show Steps p.tables e below (s₁.setTop (mkF m 48 #[.val (.int i1), .val (.int i2), .val (.int i3), .val (.int i4), .val (.int i5), .val (.int (3 : Int32)), .val (.int (1 : Int32)), .val (.int (7 : Int32)), .val (.int (i1 &&& (65535 : Int32))), .unset, .unset, .unset, .unset, .unset] [(.int (65535 : Int32)), (.int i2)])) _
        refine XS.iand X0.here hx rfl (hb hby at_48) rfl ?_
        show Steps p.tables e below (s₁.setTop (mkF m 49 #[.val (.int i1), .val (.int i2), .val (.int i3), .val (.int i4), .val (.int i5), .val (.int (3 : Int32)), .val (.int (1 : Int32)), .val (.int (7 : Int32)), .val (.int (i1 &&& (65535 : Int32))), .unset, .unset, .unset, .unset, .unset] [(.int (i2 &&& (65535 : Int32)))])) _
        refine XS.istore X0.here hx rfl (hb hby at_49) rfl (l' := #[.val (.int i1), .val (.int i2), .val (.int i3), .val (.int i4), .val (.int i5), .val (.int (3 : Int32)), .val (.int (1 : Int32)), .val (.int (7 : Int32)), .val (.int (i1 &&& (65535 : Int32))), .val (.int (i2 &&& (65535 : Int32))), .unset, .unset, .unset, .unset]) rfl ?_
        show Steps p.tables e below (s₁.setTop (mkF m 51 #[.val (.int i1), .val (.int i2), .val (.int i3), .val (.int i4), .val (.int i5), .val (.int (3 : Int32)), .val (.int (1 : Int32)), .val (.int (7 : Int32)), .val (.int (i1 &&& (65535 : Int32))), .val (.int (i2 &&& (65535 : Int32))), .unset, .unset, .unset, .unset] [])) _
        refine XS.iloadN X0.here hx rfl (hb hby at_51) rfl ?_
        show Steps p.tables e below (s₁.setTop (mkF m 52 #[.val (.int i1), .val (.int i2), .val (.int i3), .val (.int i4), .val (.int i5), .val (.int (3 : Int32)), .val (.int (1 : Int32)), .val (.int (7 : Int32)), .val (.int (i1 &&& (65535 : Int32))), .val (.int (i2 &&& (65535 : Int32))), .unset, .unset, .unset, .unset] [(.int i3)])) _
        refine X0.ldcInt hx hown (mvT hZ (hw _ (List.mem_of_getElem? (i := 0) rfl))) (g := (mkF m 52 #[.val (.int i1), .val (.int i2), .val (.int i3), .val (.int i4), .val (.int i5), .val (.int (3 : Int32)), .val (.int (1 : Int32)), .val (.int (7 : Int32)), .val (.int (i1 &&& (65535 : Int32))), .val (.int (i2 &&& (65535 : Int32))), .unset, .unset, .unset, .unset] [(.int i3)])) rfl (hb hby at_52) _ ?_
        show Steps p.tables e below (s₁.setTop (mkF m 54 #[.val (.int i1), .val (.int i2), .val (.int i3), .val (.int i4), .val (.int i5), .val (.int (3 : Int32)), .val (.int (1 : Int32)), .val (.int (7 : Int32)), .val (.int (i1 &&& (65535 : Int32))), .val (.int (i2 &&& (65535 : Int32))), .unset, .unset, .unset, .unset] [(.int (65535 : Int32)), (.int i3)])) _
        refine XS.iand X0.here hx rfl (hb hby at_54) rfl ?_
        show Steps p.tables e below (s₁.setTop (mkF m 55 #[.val (.int i1), .val (.int i2), .val (.int i3), .val (.int i4), .val (.int i5), .val (.int (3 : Int32)), .val (.int (1 : Int32)), .val (.int (7 : Int32)), .val (.int (i1 &&& (65535 : Int32))), .val (.int (i2 &&& (65535 : Int32))), .unset, .unset, .unset, .unset] [(.int (i3 &&& (65535 : Int32)))])) _
        refine XS.istore X0.here hx rfl (hb hby at_55) rfl (l' := #[.val (.int i1), .val (.int i2), .val (.int i3), .val (.int i4), .val (.int i5), .val (.int (3 : Int32)), .val (.int (1 : Int32)), .val (.int (7 : Int32)), .val (.int (i1 &&& (65535 : Int32))), .val (.int (i2 &&& (65535 : Int32))), .val (.int (i3 &&& (65535 : Int32))), .unset, .unset, .unset]) rfl ?_
        show Steps p.tables e below (s₁.setTop (mkF m 57 #[.val (.int i1), .val (.int i2), .val (.int i3), .val (.int i4), .val (.int i5), .val (.int (3 : Int32)), .val (.int (1 : Int32)), .val (.int (7 : Int32)), .val (.int (i1 &&& (65535 : Int32))), .val (.int (i2 &&& (65535 : Int32))), .val (.int (i3 &&& (65535 : Int32))), .unset, .unset, .unset] [])) _
        refine XS.iload X0.here hx rfl (hb hby at_57) rfl ?_
        show Steps p.tables e below (s₁.setTop (mkF m 59 #[.val (.int i1), .val (.int i2), .val (.int i3), .val (.int i4), .val (.int i5), .val (.int (3 : Int32)), .val (.int (1 : Int32)), .val (.int (7 : Int32)), .val (.int (i1 &&& (65535 : Int32))), .val (.int (i2 &&& (65535 : Int32))), .val (.int (i3 &&& (65535 : Int32))), .unset, .unset, .unset] [(.int (7 : Int32))])) _
        refine st193 _ ?_
        show Steps p.tables e below (T193.setTop (mkF m 61 #[.val (.int i1), .val (.int i2), .val (.int i3), .val (.int i4), .val (.int i5), .val (.int (3 : Int32)), .val (.int (1 : Int32)), .val (.int (7 : Int32)), .val (.int (i1 &&& (65535 : Int32))), .val (.int (i2 &&& (65535 : Int32))), .val (.int (i3 &&& (65535 : Int32))), .unset, .unset, .unset] [(.ref b193)])) _
        refine XS.astore X193.here hx rfl (hb hby at_61) rfl rfl (l' := #[.val (.int i1), .val (.int i2), .val (.int i3), .val (.int i4), .val (.int i5), .val (.int (3 : Int32)), .val (.int (1 : Int32)), .val (.int (7 : Int32)), .val (.int (i1 &&& (65535 : Int32))), .val (.int (i2 &&& (65535 : Int32))), .val (.int (i3 &&& (65535 : Int32))), .val (.ref b193), .unset, .unset]) rfl ?_
        show Steps p.tables e below (T193.setTop (mkF m 63 #[.val (.int i1), .val (.int i2), .val (.int i3), .val (.int i4), .val (.int i5), .val (.int (3 : Int32)), .val (.int (1 : Int32)), .val (.int (7 : Int32)), .val (.int (i1 &&& (65535 : Int32))), .val (.int (i2 &&& (65535 : Int32))), .val (.int (i3 &&& (65535 : Int32))), .val (.ref b193), .unset, .unset] [])) _
        refine XS.iload X193.here hx rfl (hb hby at_63) rfl ?_
        show Steps p.tables e below (T193.setTop (mkF m 65 #[.val (.int i1), .val (.int i2), .val (.int i3), .val (.int i4), .val (.int i5), .val (.int (3 : Int32)), .val (.int (1 : Int32)), .val (.int (7 : Int32)), .val (.int (i1 &&& (65535 : Int32))), .val (.int (i2 &&& (65535 : Int32))), .val (.int (i3 &&& (65535 : Int32))), .val (.ref b193), .unset, .unset] [(.int (3 : Int32))])) _
        refine XS.ifNo X193.here hx rfl (hb hby at_65) rfl ((if0 _ _).trans (tlt (by decide : (0 : Int32) < (3 : Int32))).2.2.2) ?_
        show Steps p.tables e below (T193.setTop (mkF m 68 #[.val (.int i1), .val (.int i2), .val (.int i3), .val (.int i4), .val (.int i5), .val (.int (3 : Int32)), .val (.int (1 : Int32)), .val (.int (7 : Int32)), .val (.int (i1 &&& (65535 : Int32))), .val (.int (i2 &&& (65535 : Int32))), .val (.int (i3 &&& (65535 : Int32))), .val (.ref b193), .unset, .unset] [])) _
        refine XS.aload X193.here hx rfl (hb hby at_68) rfl rfl ?_
        show Steps p.tables e below (T193.setTop (mkF m 70 #[.val (.int i1), .val (.int i2), .val (.int i3), .val (.int i4), .val (.int i5), .val (.int (3 : Int32)), .val (.int (1 : Int32)), .val (.int (7 : Int32)), .val (.int (i1 &&& (65535 : Int32))), .val (.int (i2 &&& (65535 : Int32))), .val (.int (i3 &&& (65535 : Int32))), .val (.ref b193), .unset, .unset] [(.ref b193)])) _
        refine XS.iconst X193.here hx rfl (hb hby at_70) ?_
        show Steps p.tables e below (T193.setTop (mkF m 71 #[.val (.int i1), .val (.int i2), .val (.int i3), .val (.int i4), .val (.int i5), .val (.int (3 : Int32)), .val (.int (1 : Int32)), .val (.int (7 : Int32)), .val (.int (i1 &&& (65535 : Int32))), .val (.int (i2 &&& (65535 : Int32))), .val (.int (i3 &&& (65535 : Int32))), .val (.ref b193), .unset, .unset] [(.int (0 : Int32)), (.ref b193)])) _
        refine XS.iload X193.here hx rfl (hb hby at_71) rfl ?_
        show Steps p.tables e below (T193.setTop (mkF m 73 #[.val (.int i1), .val (.int i2), .val (.int i3), .val (.int i4), .val (.int i5), .val (.int (3 : Int32)), .val (.int (1 : Int32)), .val (.int (7 : Int32)), .val (.int (i1 &&& (65535 : Int32))), .val (.int (i2 &&& (65535 : Int32))), .val (.int (i3 &&& (65535 : Int32))), .val (.ref b193), .unset, .unset] [(.int (i1 &&& (65535 : Int32))), (.int (0 : Int32)), (.ref b193)])) _
        refine XS.bipush X193.here hx rfl (hb hby at_73) ?_
        show Steps p.tables e below (T193.setTop (mkF m 75 #[.val (.int i1), .val (.int i2), .val (.int i3), .val (.int i4), .val (.int i5), .val (.int (3 : Int32)), .val (.int (1 : Int32)), .val (.int (7 : Int32)), .val (.int (i1 &&& (65535 : Int32))), .val (.int (i2 &&& (65535 : Int32))), .val (.int (i3 &&& (65535 : Int32))), .val (.ref b193), .unset, .unset] [(.int (8 : Int32)), (.int (i1 &&& (65535 : Int32))), (.int (0 : Int32)), (.ref b193)])) _
        refine XS.iushr X193.here hx rfl (hb hby at_75) rfl ?_
        show Steps p.tables e below (T193.setTop (mkF m 76 #[.val (.int i1), .val (.int i2), .val (.int i3), .val (.int i4), .val (.int i5), .val (.int (3 : Int32)), .val (.int (1 : Int32)), .val (.int (7 : Int32)), .val (.int (i1 &&& (65535 : Int32))), .val (.int (i2 &&& (65535 : Int32))), .val (.int (i3 &&& (65535 : Int32))), .val (.ref b193), .unset, .unset] [(.int (((i1 &&& (65535 : Int32)).toUInt32 >>> ((8 : Int32) &&& 31).toUInt32).toInt32)), (.int (0 : Int32)), (.ref b193)])) _
        refine XS.i2b X193.here hx rfl (hb hby at_76) rfl ?_
        show Steps p.tables e below (T193.setTop (mkF m 77 #[.val (.int i1), .val (.int i2), .val (.int i3), .val (.int i4), .val (.int i5), .val (.int (3 : Int32)), .val (.int (1 : Int32)), .val (.int (7 : Int32)), .val (.int (i1 &&& (65535 : Int32))), .val (.int (i2 &&& (65535 : Int32))), .val (.int (i3 &&& (65535 : Int32))), .val (.ref b193), .unset, .unset] [(.int ((((i1 &&& (65535 : Int32)).toUInt32 >>> ((8 : Int32) &&& 31).toUInt32).toInt32).toInt8.toInt32)), (.int (0 : Int32)), (.ref b193)])) _
        refine st195 _ ?_
        show Steps p.tables e below (T195.setTop (mkF m 78 #[.val (.int i1), .val (.int i2), .val (.int i3), .val (.int i4), .val (.int i5), .val (.int (3 : Int32)), .val (.int (1 : Int32)), .val (.int (7 : Int32)), .val (.int (i1 &&& (65535 : Int32))), .val (.int (i2 &&& (65535 : Int32))), .val (.int (i3 &&& (65535 : Int32))), .val (.ref b193), .unset, .unset] [])) _
        refine XS.aload X195.here hx rfl (hb hby at_78) rfl rfl ?_
        show Steps p.tables e below (T195.setTop (mkF m 80 #[.val (.int i1), .val (.int i2), .val (.int i3), .val (.int i4), .val (.int i5), .val (.int (3 : Int32)), .val (.int (1 : Int32)), .val (.int (7 : Int32)), .val (.int (i1 &&& (65535 : Int32))), .val (.int (i2 &&& (65535 : Int32))), .val (.int (i3 &&& (65535 : Int32))), .val (.ref b193), .unset, .unset] [(.ref b193)])) _
        refine XS.iconst X195.here hx rfl (hb hby at_80) ?_
        show Steps p.tables e below (T195.setTop (mkF m 81 #[.val (.int i1), .val (.int i2), .val (.int i3), .val (.int i4), .val (.int i5), .val (.int (3 : Int32)), .val (.int (1 : Int32)), .val (.int (7 : Int32)), .val (.int (i1 &&& (65535 : Int32))), .val (.int (i2 &&& (65535 : Int32))), .val (.int (i3 &&& (65535 : Int32))), .val (.ref b193), .unset, .unset] [(.int (1 : Int32)), (.ref b193)])) _
        refine XS.iload X195.here hx rfl (hb hby at_81) rfl ?_
        show Steps p.tables e below (T195.setTop (mkF m 83 #[.val (.int i1), .val (.int i2), .val (.int i3), .val (.int i4), .val (.int i5), .val (.int (3 : Int32)), .val (.int (1 : Int32)), .val (.int (7 : Int32)), .val (.int (i1 &&& (65535 : Int32))), .val (.int (i2 &&& (65535 : Int32))), .val (.int (i3 &&& (65535 : Int32))), .val (.ref b193), .unset, .unset] [(.int (i1 &&& (65535 : Int32))), (.int (1 : Int32)), (.ref b193)])) _
        refine XS.i2b X195.here hx rfl (hb hby at_83) rfl ?_
        show Steps p.tables e below (T195.setTop (mkF m 84 #[.val (.int i1), .val (.int i2), .val (.int i3), .val (.int i4), .val (.int i5), .val (.int (3 : Int32)), .val (.int (1 : Int32)), .val (.int (7 : Int32)), .val (.int (i1 &&& (65535 : Int32))), .val (.int (i2 &&& (65535 : Int32))), .val (.int (i3 &&& (65535 : Int32))), .val (.ref b193), .unset, .unset] [(.int ((i1 &&& (65535 : Int32)).toInt8.toInt32)), (.int (1 : Int32)), (.ref b193)])) _
        refine st197 _ ?_
        show Steps p.tables e below (T197.setTop (mkF m 85 #[.val (.int i1), .val (.int i2), .val (.int i3), .val (.int i4), .val (.int i5), .val (.int (3 : Int32)), .val (.int (1 : Int32)), .val (.int (7 : Int32)), .val (.int (i1 &&& (65535 : Int32))), .val (.int (i2 &&& (65535 : Int32))), .val (.int (i3 &&& (65535 : Int32))), .val (.ref b193), .unset, .unset] [])) _
        refine XS.iload X197.here hx rfl (hb hby at_85) rfl ?_
        show Steps p.tables e below (T197.setTop (mkF m 87 #[.val (.int i1), .val (.int i2), .val (.int i3), .val (.int i4), .val (.int i5), .val (.int (3 : Int32)), .val (.int (1 : Int32)), .val (.int (7 : Int32)), .val (.int (i1 &&& (65535 : Int32))), .val (.int (i2 &&& (65535 : Int32))), .val (.int (i3 &&& (65535 : Int32))), .val (.ref b193), .unset, .unset] [(.int (3 : Int32))])) _
        refine XS.iconst X197.here hx rfl (hb hby at_87) ?_
        show Steps p.tables e below (T197.setTop (mkF m 88 #[.val (.int i1), .val (.int i2), .val (.int i3), .val (.int i4), .val (.int i5), .val (.int (3 : Int32)), .val (.int (1 : Int32)), .val (.int (7 : Int32)), .val (.int (i1 &&& (65535 : Int32))), .val (.int (i2 &&& (65535 : Int32))), .val (.int (i3 &&& (65535 : Int32))), .val (.ref b193), .unset, .unset] [(.int (1 : Int32)), (.int (3 : Int32))])) _
        refine XS.icmpNo X197.here hx rfl (hb hby at_88) rfl (tlt (by decide : (1 : Int32) < (3 : Int32))).2.2.2 ?_
        show Steps p.tables e below (T197.setTop (mkF m 91 #[.val (.int i1), .val (.int i2), .val (.int i3), .val (.int i4), .val (.int i5), .val (.int (3 : Int32)), .val (.int (1 : Int32)), .val (.int (7 : Int32)), .val (.int (i1 &&& (65535 : Int32))), .val (.int (i2 &&& (65535 : Int32))), .val (.int (i3 &&& (65535 : Int32))), .val (.ref b193), .unset, .unset] [])) _
        refine XS.aload X197.here hx rfl (hb hby at_91) rfl rfl ?_
        show Steps p.tables e below (T197.setTop (mkF m 93 #[.val (.int i1), .val (.int i2), .val (.int i3), .val (.int i4), .val (.int i5), .val (.int (3 : Int32)), .val (.int (1 : Int32)), .val (.int (7 : Int32)), .val (.int (i1 &&& (65535 : Int32))), .val (.int (i2 &&& (65535 : Int32))), .val (.int (i3 &&& (65535 : Int32))), .val (.ref b193), .unset, .unset] [(.ref b193)])) _
        refine XS.iconst X197.here hx rfl (hb hby at_93) ?_
        show Steps p.tables e below (T197.setTop (mkF m 94 #[.val (.int i1), .val (.int i2), .val (.int i3), .val (.int i4), .val (.int i5), .val (.int (3 : Int32)), .val (.int (1 : Int32)), .val (.int (7 : Int32)), .val (.int (i1 &&& (65535 : Int32))), .val (.int (i2 &&& (65535 : Int32))), .val (.int (i3 &&& (65535 : Int32))), .val (.ref b193), .unset, .unset] [(.int (2 : Int32)), (.ref b193)])) _
        refine XS.iload X197.here hx rfl (hb hby at_94) rfl ?_
        show Steps p.tables e below (T197.setTop (mkF m 96 #[.val (.int i1), .val (.int i2), .val (.int i3), .val (.int i4), .val (.int i5), .val (.int (3 : Int32)), .val (.int (1 : Int32)), .val (.int (7 : Int32)), .val (.int (i1 &&& (65535 : Int32))), .val (.int (i2 &&& (65535 : Int32))), .val (.int (i3 &&& (65535 : Int32))), .val (.ref b193), .unset, .unset] [(.int (i2 &&& (65535 : Int32))), (.int (2 : Int32)), (.ref b193)])) _
        refine XS.bipush X197.here hx rfl (hb hby at_96) ?_
        show Steps p.tables e below (T197.setTop (mkF m 98 #[.val (.int i1), .val (.int i2), .val (.int i3), .val (.int i4), .val (.int i5), .val (.int (3 : Int32)), .val (.int (1 : Int32)), .val (.int (7 : Int32)), .val (.int (i1 &&& (65535 : Int32))), .val (.int (i2 &&& (65535 : Int32))), .val (.int (i3 &&& (65535 : Int32))), .val (.ref b193), .unset, .unset] [(.int (8 : Int32)), (.int (i2 &&& (65535 : Int32))), (.int (2 : Int32)), (.ref b193)])) _
        refine XS.iushr X197.here hx rfl (hb hby at_98) rfl ?_
        show Steps p.tables e below (T197.setTop (mkF m 99 #[.val (.int i1), .val (.int i2), .val (.int i3), .val (.int i4), .val (.int i5), .val (.int (3 : Int32)), .val (.int (1 : Int32)), .val (.int (7 : Int32)), .val (.int (i1 &&& (65535 : Int32))), .val (.int (i2 &&& (65535 : Int32))), .val (.int (i3 &&& (65535 : Int32))), .val (.ref b193), .unset, .unset] [(.int (((i2 &&& (65535 : Int32)).toUInt32 >>> ((8 : Int32) &&& 31).toUInt32).toInt32)), (.int (2 : Int32)), (.ref b193)])) _
        refine XS.i2b X197.here hx rfl (hb hby at_99) rfl ?_
        show Steps p.tables e below (T197.setTop (mkF m 100 #[.val (.int i1), .val (.int i2), .val (.int i3), .val (.int i4), .val (.int i5), .val (.int (3 : Int32)), .val (.int (1 : Int32)), .val (.int (7 : Int32)), .val (.int (i1 &&& (65535 : Int32))), .val (.int (i2 &&& (65535 : Int32))), .val (.int (i3 &&& (65535 : Int32))), .val (.ref b193), .unset, .unset] [(.int ((((i2 &&& (65535 : Int32)).toUInt32 >>> ((8 : Int32) &&& 31).toUInt32).toInt32).toInt8.toInt32)), (.int (2 : Int32)), (.ref b193)])) _
        refine st199 _ ?_
        show Steps p.tables e below (T199.setTop (mkF m 101 #[.val (.int i1), .val (.int i2), .val (.int i3), .val (.int i4), .val (.int i5), .val (.int (3 : Int32)), .val (.int (1 : Int32)), .val (.int (7 : Int32)), .val (.int (i1 &&& (65535 : Int32))), .val (.int (i2 &&& (65535 : Int32))), .val (.int (i3 &&& (65535 : Int32))), .val (.ref b193), .unset, .unset] [])) _
        refine XS.aload X199.here hx rfl (hb hby at_101) rfl rfl ?_
        show Steps p.tables e below (T199.setTop (mkF m 103 #[.val (.int i1), .val (.int i2), .val (.int i3), .val (.int i4), .val (.int i5), .val (.int (3 : Int32)), .val (.int (1 : Int32)), .val (.int (7 : Int32)), .val (.int (i1 &&& (65535 : Int32))), .val (.int (i2 &&& (65535 : Int32))), .val (.int (i3 &&& (65535 : Int32))), .val (.ref b193), .unset, .unset] [(.ref b193)])) _
        refine XS.iconst X199.here hx rfl (hb hby at_103) ?_
        show Steps p.tables e below (T199.setTop (mkF m 104 #[.val (.int i1), .val (.int i2), .val (.int i3), .val (.int i4), .val (.int i5), .val (.int (3 : Int32)), .val (.int (1 : Int32)), .val (.int (7 : Int32)), .val (.int (i1 &&& (65535 : Int32))), .val (.int (i2 &&& (65535 : Int32))), .val (.int (i3 &&& (65535 : Int32))), .val (.ref b193), .unset, .unset] [(.int (3 : Int32)), (.ref b193)])) _
        refine XS.iload X199.here hx rfl (hb hby at_104) rfl ?_
        show Steps p.tables e below (T199.setTop (mkF m 106 #[.val (.int i1), .val (.int i2), .val (.int i3), .val (.int i4), .val (.int i5), .val (.int (3 : Int32)), .val (.int (1 : Int32)), .val (.int (7 : Int32)), .val (.int (i1 &&& (65535 : Int32))), .val (.int (i2 &&& (65535 : Int32))), .val (.int (i3 &&& (65535 : Int32))), .val (.ref b193), .unset, .unset] [(.int (i2 &&& (65535 : Int32))), (.int (3 : Int32)), (.ref b193)])) _
        refine XS.i2b X199.here hx rfl (hb hby at_106) rfl ?_
        show Steps p.tables e below (T199.setTop (mkF m 107 #[.val (.int i1), .val (.int i2), .val (.int i3), .val (.int i4), .val (.int i5), .val (.int (3 : Int32)), .val (.int (1 : Int32)), .val (.int (7 : Int32)), .val (.int (i1 &&& (65535 : Int32))), .val (.int (i2 &&& (65535 : Int32))), .val (.int (i3 &&& (65535 : Int32))), .val (.ref b193), .unset, .unset] [(.int ((i2 &&& (65535 : Int32)).toInt8.toInt32)), (.int (3 : Int32)), (.ref b193)])) _
        refine st201 _ ?_
        show Steps p.tables e below (T201.setTop (mkF m 108 #[.val (.int i1), .val (.int i2), .val (.int i3), .val (.int i4), .val (.int i5), .val (.int (3 : Int32)), .val (.int (1 : Int32)), .val (.int (7 : Int32)), .val (.int (i1 &&& (65535 : Int32))), .val (.int (i2 &&& (65535 : Int32))), .val (.int (i3 &&& (65535 : Int32))), .val (.ref b193), .unset, .unset] [])) _
        refine XS.iload X201.here hx rfl (hb hby at_108) rfl ?_
        show Steps p.tables e below (T201.setTop (mkF m 110 #[.val (.int i1), .val (.int i2), .val (.int i3), .val (.int i4), .val (.int i5), .val (.int (3 : Int32)), .val (.int (1 : Int32)), .val (.int (7 : Int32)), .val (.int (i1 &&& (65535 : Int32))), .val (.int (i2 &&& (65535 : Int32))), .val (.int (i3 &&& (65535 : Int32))), .val (.ref b193), .unset, .unset] [(.int (3 : Int32))])) _
        refine XS.iconst X201.here hx rfl (hb hby at_110) ?_
        show Steps p.tables e below (T201.setTop (mkF m 111 #[.val (.int i1), .val (.int i2), .val (.int i3), .val (.int i4), .val (.int i5), .val (.int (3 : Int32)), .val (.int (1 : Int32)), .val (.int (7 : Int32)), .val (.int (i1 &&& (65535 : Int32))), .val (.int (i2 &&& (65535 : Int32))), .val (.int (i3 &&& (65535 : Int32))), .val (.ref b193), .unset, .unset] [(.int (2 : Int32)), (.int (3 : Int32))])) _
        refine XS.icmpNo X201.here hx rfl (hb hby at_111) rfl (tlt (by decide : (2 : Int32) < (3 : Int32))).2.2.2 ?_
        show Steps p.tables e below (T201.setTop (mkF m 114 #[.val (.int i1), .val (.int i2), .val (.int i3), .val (.int i4), .val (.int i5), .val (.int (3 : Int32)), .val (.int (1 : Int32)), .val (.int (7 : Int32)), .val (.int (i1 &&& (65535 : Int32))), .val (.int (i2 &&& (65535 : Int32))), .val (.int (i3 &&& (65535 : Int32))), .val (.ref b193), .unset, .unset] [])) _
        refine XS.aload X201.here hx rfl (hb hby at_114) rfl rfl ?_
        show Steps p.tables e below (T201.setTop (mkF m 116 #[.val (.int i1), .val (.int i2), .val (.int i3), .val (.int i4), .val (.int i5), .val (.int (3 : Int32)), .val (.int (1 : Int32)), .val (.int (7 : Int32)), .val (.int (i1 &&& (65535 : Int32))), .val (.int (i2 &&& (65535 : Int32))), .val (.int (i3 &&& (65535 : Int32))), .val (.ref b193), .unset, .unset] [(.ref b193)])) _
        refine XS.iconst X201.here hx rfl (hb hby at_116) ?_
        show Steps p.tables e below (T201.setTop (mkF m 117 #[.val (.int i1), .val (.int i2), .val (.int i3), .val (.int i4), .val (.int i5), .val (.int (3 : Int32)), .val (.int (1 : Int32)), .val (.int (7 : Int32)), .val (.int (i1 &&& (65535 : Int32))), .val (.int (i2 &&& (65535 : Int32))), .val (.int (i3 &&& (65535 : Int32))), .val (.ref b193), .unset, .unset] [(.int (4 : Int32)), (.ref b193)])) _
        refine XS.iload X201.here hx rfl (hb hby at_117) rfl ?_
        show Steps p.tables e below (T201.setTop (mkF m 119 #[.val (.int i1), .val (.int i2), .val (.int i3), .val (.int i4), .val (.int i5), .val (.int (3 : Int32)), .val (.int (1 : Int32)), .val (.int (7 : Int32)), .val (.int (i1 &&& (65535 : Int32))), .val (.int (i2 &&& (65535 : Int32))), .val (.int (i3 &&& (65535 : Int32))), .val (.ref b193), .unset, .unset] [(.int (i3 &&& (65535 : Int32))), (.int (4 : Int32)), (.ref b193)])) _
        refine XS.bipush X201.here hx rfl (hb hby at_119) ?_
        show Steps p.tables e below (T201.setTop (mkF m 121 #[.val (.int i1), .val (.int i2), .val (.int i3), .val (.int i4), .val (.int i5), .val (.int (3 : Int32)), .val (.int (1 : Int32)), .val (.int (7 : Int32)), .val (.int (i1 &&& (65535 : Int32))), .val (.int (i2 &&& (65535 : Int32))), .val (.int (i3 &&& (65535 : Int32))), .val (.ref b193), .unset, .unset] [(.int (8 : Int32)), (.int (i3 &&& (65535 : Int32))), (.int (4 : Int32)), (.ref b193)])) _
        refine XS.iushr X201.here hx rfl (hb hby at_121) rfl ?_
        show Steps p.tables e below (T201.setTop (mkF m 122 #[.val (.int i1), .val (.int i2), .val (.int i3), .val (.int i4), .val (.int i5), .val (.int (3 : Int32)), .val (.int (1 : Int32)), .val (.int (7 : Int32)), .val (.int (i1 &&& (65535 : Int32))), .val (.int (i2 &&& (65535 : Int32))), .val (.int (i3 &&& (65535 : Int32))), .val (.ref b193), .unset, .unset] [(.int (((i3 &&& (65535 : Int32)).toUInt32 >>> ((8 : Int32) &&& 31).toUInt32).toInt32)), (.int (4 : Int32)), (.ref b193)])) _
        refine XS.i2b X201.here hx rfl (hb hby at_122) rfl ?_
        show Steps p.tables e below (T201.setTop (mkF m 123 #[.val (.int i1), .val (.int i2), .val (.int i3), .val (.int i4), .val (.int i5), .val (.int (3 : Int32)), .val (.int (1 : Int32)), .val (.int (7 : Int32)), .val (.int (i1 &&& (65535 : Int32))), .val (.int (i2 &&& (65535 : Int32))), .val (.int (i3 &&& (65535 : Int32))), .val (.ref b193), .unset, .unset] [(.int ((((i3 &&& (65535 : Int32)).toUInt32 >>> ((8 : Int32) &&& 31).toUInt32).toInt32).toInt8.toInt32)), (.int (4 : Int32)), (.ref b193)])) _
        refine st203 _ ?_
        show Steps p.tables e below (T203.setTop (mkF m 124 #[.val (.int i1), .val (.int i2), .val (.int i3), .val (.int i4), .val (.int i5), .val (.int (3 : Int32)), .val (.int (1 : Int32)), .val (.int (7 : Int32)), .val (.int (i1 &&& (65535 : Int32))), .val (.int (i2 &&& (65535 : Int32))), .val (.int (i3 &&& (65535 : Int32))), .val (.ref b193), .unset, .unset] [])) _
        refine XS.aload X203.here hx rfl (hb hby at_124) rfl rfl ?_
        show Steps p.tables e below (T203.setTop (mkF m 126 #[.val (.int i1), .val (.int i2), .val (.int i3), .val (.int i4), .val (.int i5), .val (.int (3 : Int32)), .val (.int (1 : Int32)), .val (.int (7 : Int32)), .val (.int (i1 &&& (65535 : Int32))), .val (.int (i2 &&& (65535 : Int32))), .val (.int (i3 &&& (65535 : Int32))), .val (.ref b193), .unset, .unset] [(.ref b193)])) _
        refine XS.iconst X203.here hx rfl (hb hby at_126) ?_
        show Steps p.tables e below (T203.setTop (mkF m 127 #[.val (.int i1), .val (.int i2), .val (.int i3), .val (.int i4), .val (.int i5), .val (.int (3 : Int32)), .val (.int (1 : Int32)), .val (.int (7 : Int32)), .val (.int (i1 &&& (65535 : Int32))), .val (.int (i2 &&& (65535 : Int32))), .val (.int (i3 &&& (65535 : Int32))), .val (.ref b193), .unset, .unset] [(.int (5 : Int32)), (.ref b193)])) _
        refine XS.iload X203.here hx rfl (hb hby at_127) rfl ?_
        show Steps p.tables e below (T203.setTop (mkF m 129 #[.val (.int i1), .val (.int i2), .val (.int i3), .val (.int i4), .val (.int i5), .val (.int (3 : Int32)), .val (.int (1 : Int32)), .val (.int (7 : Int32)), .val (.int (i1 &&& (65535 : Int32))), .val (.int (i2 &&& (65535 : Int32))), .val (.int (i3 &&& (65535 : Int32))), .val (.ref b193), .unset, .unset] [(.int (i3 &&& (65535 : Int32))), (.int (5 : Int32)), (.ref b193)])) _
        refine XS.i2b X203.here hx rfl (hb hby at_129) rfl ?_
        show Steps p.tables e below (T203.setTop (mkF m 130 #[.val (.int i1), .val (.int i2), .val (.int i3), .val (.int i4), .val (.int i5), .val (.int (3 : Int32)), .val (.int (1 : Int32)), .val (.int (7 : Int32)), .val (.int (i1 &&& (65535 : Int32))), .val (.int (i2 &&& (65535 : Int32))), .val (.int (i3 &&& (65535 : Int32))), .val (.ref b193), .unset, .unset] [(.int ((i3 &&& (65535 : Int32)).toInt8.toInt32)), (.int (5 : Int32)), (.ref b193)])) _
        refine st205 _ ?_
        show Steps p.tables e below (T205.setTop (mkF m 131 #[.val (.int i1), .val (.int i2), .val (.int i3), .val (.int i4), .val (.int i5), .val (.int (3 : Int32)), .val (.int (1 : Int32)), .val (.int (7 : Int32)), .val (.int (i1 &&& (65535 : Int32))), .val (.int (i2 &&& (65535 : Int32))), .val (.int (i3 &&& (65535 : Int32))), .val (.ref b193), .unset, .unset] [])) _
        refine XS.iload X205.here hx rfl (hb hby at_131) rfl ?_
        show Steps p.tables e below (T205.setTop (mkF m 133 #[.val (.int i1), .val (.int i2), .val (.int i3), .val (.int i4), .val (.int i5), .val (.int (3 : Int32)), .val (.int (1 : Int32)), .val (.int (7 : Int32)), .val (.int (i1 &&& (65535 : Int32))), .val (.int (i2 &&& (65535 : Int32))), .val (.int (i3 &&& (65535 : Int32))), .val (.ref b193), .unset, .unset] [(.int (1 : Int32))])) _
        refine XS.ifNo X205.here hx rfl (hb hby at_133) rfl ((if0 _ _).trans (feq (by decide : ¬ ((1 : Int32) = (0 : Int32)))).1) ?_
        show Steps p.tables e below (T205.setTop (mkF m 136 #[.val (.int i1), .val (.int i2), .val (.int i3), .val (.int i4), .val (.int i5), .val (.int (3 : Int32)), .val (.int (1 : Int32)), .val (.int (7 : Int32)), .val (.int (i1 &&& (65535 : Int32))), .val (.int (i2 &&& (65535 : Int32))), .val (.int (i3 &&& (65535 : Int32))), .val (.ref b193), .unset, .unset] [])) _
        refine XS.aload X205.here hx rfl (hb hby at_136) rfl rfl ?_
        show Steps p.tables e below (T205.setTop (mkF m 138 #[.val (.int i1), .val (.int i2), .val (.int i3), .val (.int i4), .val (.int i5), .val (.int (3 : Int32)), .val (.int (1 : Int32)), .val (.int (7 : Int32)), .val (.int (i1 &&& (65535 : Int32))), .val (.int (i2 &&& (65535 : Int32))), .val (.int (i3 &&& (65535 : Int32))), .val (.ref b193), .unset, .unset] [(.ref b193)])) _
        refine XS.iconst X205.here hx rfl (hb hby at_138) ?_
        show Steps p.tables e below (T205.setTop (mkF m 139 #[.val (.int i1), .val (.int i2), .val (.int i3), .val (.int i4), .val (.int i5), .val (.int (3 : Int32)), .val (.int (1 : Int32)), .val (.int (7 : Int32)), .val (.int (i1 &&& (65535 : Int32))), .val (.int (i2 &&& (65535 : Int32))), .val (.int (i3 &&& (65535 : Int32))), .val (.ref b193), .unset, .unset] [(.int (2 : Int32)), (.ref b193)])) _
        refine XS.iload X205.here hx rfl (hb hby at_139) rfl ?_
        show Steps p.tables e below (T205.setTop (mkF m 141 #[.val (.int i1), .val (.int i2), .val (.int i3), .val (.int i4), .val (.int i5), .val (.int (3 : Int32)), .val (.int (1 : Int32)), .val (.int (7 : Int32)), .val (.int (i1 &&& (65535 : Int32))), .val (.int (i2 &&& (65535 : Int32))), .val (.int (i3 &&& (65535 : Int32))), .val (.ref b193), .unset, .unset] [(.int (3 : Int32)), (.int (2 : Int32)), (.ref b193)])) _
        refine XS.imul X205.here hx rfl (hb hby at_141) rfl ?_
        show Steps p.tables e below (T205.setTop (mkF m 142 #[.val (.int i1), .val (.int i2), .val (.int i3), .val (.int i4), .val (.int i5), .val (.int (3 : Int32)), .val (.int (1 : Int32)), .val (.int (7 : Int32)), .val (.int (i1 &&& (65535 : Int32))), .val (.int (i2 &&& (65535 : Int32))), .val (.int (i3 &&& (65535 : Int32))), .val (.ref b193), .unset, .unset] [(.int (6 : Int32)), (.ref b193)])) _
        refine XS.iloadN X205.here hx rfl (hb hby at_142) rfl ?_
        show Steps p.tables e below (T205.setTop (mkF m 143 #[.val (.int i1), .val (.int i2), .val (.int i3), .val (.int i4), .val (.int i5), .val (.int (3 : Int32)), .val (.int (1 : Int32)), .val (.int (7 : Int32)), .val (.int (i1 &&& (65535 : Int32))), .val (.int (i2 &&& (65535 : Int32))), .val (.int (i3 &&& (65535 : Int32))), .val (.ref b193), .unset, .unset] [(.int i4), (.int (6 : Int32)), (.ref b193)])) _
        refine XS.i2b X205.here hx rfl (hb hby at_143) rfl ?_
        show Steps p.tables e below (T205.setTop (mkF m 144 #[.val (.int i1), .val (.int i2), .val (.int i3), .val (.int i4), .val (.int i5), .val (.int (3 : Int32)), .val (.int (1 : Int32)), .val (.int (7 : Int32)), .val (.int (i1 &&& (65535 : Int32))), .val (.int (i2 &&& (65535 : Int32))), .val (.int (i3 &&& (65535 : Int32))), .val (.ref b193), .unset, .unset] [(.int (i4.toInt8.toInt32)), (.int (6 : Int32)), (.ref b193)])) _
        refine st207 _ ?_
        show Steps p.tables e below (T207.setTop (mkF m 145 #[.val (.int i1), .val (.int i2), .val (.int i3), .val (.int i4), .val (.int i5), .val (.int (3 : Int32)), .val (.int (1 : Int32)), .val (.int (7 : Int32)), .val (.int (i1 &&& (65535 : Int32))), .val (.int (i2 &&& (65535 : Int32))), .val (.int (i3 &&& (65535 : Int32))), .val (.ref b193), .unset, .unset] [])) _
        refine XS.aload X207.here hx rfl (hb hby at_145) rfl rfl ?_
        show Steps p.tables e below (T207.setTop (mkF m 147 #[.val (.int i1), .val (.int i2), .val (.int i3), .val (.int i4), .val (.int i5), .val (.int (3 : Int32)), .val (.int (1 : Int32)), .val (.int (7 : Int32)), .val (.int (i1 &&& (65535 : Int32))), .val (.int (i2 &&& (65535 : Int32))), .val (.int (i3 &&& (65535 : Int32))), .val (.ref b193), .unset, .unset] [(.ref b193)])) _
        refine st209 _ ?_
        show Steps p.tables e below (T209.setTop (mkF m 150 #[.val (.int i1), .val (.int i2), .val (.int i3), .val (.int i4), .val (.int i5), .val (.int (3 : Int32)), .val (.int (1 : Int32)), .val (.int (7 : Int32)), .val (.int (i1 &&& (65535 : Int32))), .val (.int (i2 &&& (65535 : Int32))), .val (.int (i3 &&& (65535 : Int32))), .val (.ref b193), .unset, .unset] [(.ref b209_0)])) _
        refine XS.astore X209.here hx rfl (hb hby at_150) rfl rfl (l' := #[.val (.int i1), .val (.int i2), .val (.int i3), .val (.int i4), .val (.int i5), .val (.int (3 : Int32)), .val (.int (1 : Int32)), .val (.int (7 : Int32)), .val (.int (i1 &&& (65535 : Int32))), .val (.int (i2 &&& (65535 : Int32))), .val (.int (i3 &&& (65535 : Int32))), .val (.ref b193), .val (.ref b209_0), .unset]) rfl ?_
        show Steps p.tables e below (T209.setTop (mkF m 152 #[.val (.int i1), .val (.int i2), .val (.int i3), .val (.int i4), .val (.int i5), .val (.int (3 : Int32)), .val (.int (1 : Int32)), .val (.int (7 : Int32)), .val (.int (i1 &&& (65535 : Int32))), .val (.int (i2 &&& (65535 : Int32))), .val (.int (i3 &&& (65535 : Int32))), .val (.ref b193), .val (.ref b209_0), .unset] [])) _
        refine XS.aload X209.here hx rfl (hb hby at_152) rfl rfl ?_
        show Steps p.tables e below (T209.setTop (mkF m 154 #[.val (.int i1), .val (.int i2), .val (.int i3), .val (.int i4), .val (.int i5), .val (.int (3 : Int32)), .val (.int (1 : Int32)), .val (.int (7 : Int32)), .val (.int (i1 &&& (65535 : Int32))), .val (.int (i2 &&& (65535 : Int32))), .val (.int (i3 &&& (65535 : Int32))), .val (.ref b193), .val (.ref b209_0), .unset] [(.ref b209_0)])) _
        refine X209.arraylength hx (by exact Ar211.1) (State.isArrayOf_alike hZ.alike Ar211.2.1) (g := (mkF m 154 #[.val (.int i1), .val (.int i2), .val (.int i3), .val (.int i4), .val (.int i5), .val (.int (3 : Int32)), .val (.int (1 : Int32)), .val (.int (7 : Int32)), .val (.int (i1 &&& (65535 : Int32))), .val (.int (i2 &&& (65535 : Int32))), .val (.int (i3 &&& (65535 : Int32))), .val (.ref b193), .val (.ref b209_0), .unset] [(.ref b209_0)])) rfl rfl (hb hby at_154) _ ?_
        rw [len_of Sz211 Nn211]
        show Steps p.tables e below (T209.setTop (mkF m 155 #[.val (.int i1), .val (.int i2), .val (.int i3), .val (.int i4), .val (.int i5), .val (.int (3 : Int32)), .val (.int (1 : Int32)), .val (.int (7 : Int32)), .val (.int (i1 &&& (65535 : Int32))), .val (.int (i2 &&& (65535 : Int32))), .val (.int (i3 &&& (65535 : Int32))), .val (.ref b193), .val (.ref b209_0), .unset] [(.int (3 : Int32))])) _
        refine XS.iload X209.here hx rfl (hb hby at_155) rfl ?_
        show Steps p.tables e below (T209.setTop (mkF m 157 #[.val (.int i1), .val (.int i2), .val (.int i3), .val (.int i4), .val (.int i5), .val (.int (3 : Int32)), .val (.int (1 : Int32)), .val (.int (7 : Int32)), .val (.int (i1 &&& (65535 : Int32))), .val (.int (i2 &&& (65535 : Int32))), .val (.int (i3 &&& (65535 : Int32))), .val (.ref b193), .val (.ref b209_0), .unset] [(.int (3 : Int32)), (.int (3 : Int32))])) _
        refine XS.icmpYes X209.here hx rfl (pc0 := 157) (pc' := 162) rfl (hb hby at_157) rfl (teq (by decide : (3 : Int32) = (3 : Int32))).1 (by decide) (by decide) ?_
        show Steps p.tables e below (T209.setTop (mkF m 162 #[.val (.int i1), .val (.int i2), .val (.int i3), .val (.int i4), .val (.int i5), .val (.int (3 : Int32)), .val (.int (1 : Int32)), .val (.int (7 : Int32)), .val (.int (i1 &&& (65535 : Int32))), .val (.int (i2 &&& (65535 : Int32))), .val (.int (i3 &&& (65535 : Int32))), .val (.ref b193), .val (.ref b209_0), .unset] [])) _
        refine XS.iconst X209.here hx rfl (hb hby at_162) ?_
        show Steps p.tables e below (T209.setTop (mkF m 163 #[.val (.int i1), .val (.int i2), .val (.int i3), .val (.int i4), .val (.int i5), .val (.int (3 : Int32)), .val (.int (1 : Int32)), .val (.int (7 : Int32)), .val (.int (i1 &&& (65535 : Int32))), .val (.int (i2 &&& (65535 : Int32))), .val (.int (i3 &&& (65535 : Int32))), .val (.ref b193), .val (.ref b209_0), .unset] [(.int (1 : Int32))])) _
        refine XS.istore X209.here hx rfl (hb hby at_163) rfl (l' := #[.val (.int i1), .val (.int i2), .val (.int i3), .val (.int i4), .val (.int i5), .val (.int (3 : Int32)), .val (.int (1 : Int32)), .val (.int (7 : Int32)), .val (.int (i1 &&& (65535 : Int32))), .val (.int (i2 &&& (65535 : Int32))), .val (.int (i3 &&& (65535 : Int32))), .val (.ref b193), .val (.ref b209_0), .val (.int (1 : Int32))]) rfl ?_
        show Steps p.tables e below (T209.setTop (mkF m 165 #[.val (.int i1), .val (.int i2), .val (.int i3), .val (.int i4), .val (.int i5), .val (.int (3 : Int32)), .val (.int (1 : Int32)), .val (.int (7 : Int32)), .val (.int (i1 &&& (65535 : Int32))), .val (.int (i2 &&& (65535 : Int32))), .val (.int (i3 &&& (65535 : Int32))), .val (.ref b193), .val (.ref b209_0), .val (.int (1 : Int32))] [])) _
        refine XS.iload X209.here hx rfl (hb hby at_165) rfl ?_
        show Steps p.tables e below (T209.setTop (mkF m 167 #[.val (.int i1), .val (.int i2), .val (.int i3), .val (.int i4), .val (.int i5), .val (.int (3 : Int32)), .val (.int (1 : Int32)), .val (.int (7 : Int32)), .val (.int (i1 &&& (65535 : Int32))), .val (.int (i2 &&& (65535 : Int32))), .val (.int (i3 &&& (65535 : Int32))), .val (.ref b193), .val (.ref b209_0), .val (.int (1 : Int32))] [(.int (3 : Int32))])) _
        refine XS.ifNo X209.here hx rfl (hb hby at_167) rfl ((if0 _ _).trans (tlt (by decide : (0 : Int32) < (3 : Int32))).2.2.2) ?_
        show Steps p.tables e below (T209.setTop (mkF m 170 #[.val (.int i1), .val (.int i2), .val (.int i3), .val (.int i4), .val (.int i5), .val (.int (3 : Int32)), .val (.int (1 : Int32)), .val (.int (7 : Int32)), .val (.int (i1 &&& (65535 : Int32))), .val (.int (i2 &&& (65535 : Int32))), .val (.int (i3 &&& (65535 : Int32))), .val (.ref b193), .val (.ref b209_0), .val (.int (1 : Int32))] [])) _
        refine XS.iload X209.here hx rfl (hb hby at_170) rfl ?_
        show Steps p.tables e below (T209.setTop (mkF m 172 #[.val (.int i1), .val (.int i2), .val (.int i3), .val (.int i4), .val (.int i5), .val (.int (3 : Int32)), .val (.int (1 : Int32)), .val (.int (7 : Int32)), .val (.int (i1 &&& (65535 : Int32))), .val (.int (i2 &&& (65535 : Int32))), .val (.int (i3 &&& (65535 : Int32))), .val (.ref b193), .val (.ref b209_0), .val (.int (1 : Int32))] [(.int (1 : Int32))])) _
        refine XS.ifNo X209.here hx rfl (hb hby at_172) rfl ((if0 _ _).trans (feq (by decide : ¬ ((1 : Int32) = (0 : Int32)))).1) ?_
        show Steps p.tables e below (T209.setTop (mkF m 175 #[.val (.int i1), .val (.int i2), .val (.int i3), .val (.int i4), .val (.int i5), .val (.int (3 : Int32)), .val (.int (1 : Int32)), .val (.int (7 : Int32)), .val (.int (i1 &&& (65535 : Int32))), .val (.int (i2 &&& (65535 : Int32))), .val (.int (i3 &&& (65535 : Int32))), .val (.ref b193), .val (.ref b209_0), .val (.int (1 : Int32))] [])) _
        refine XS.aload X209.here hx rfl (hb hby at_175) rfl rfl ?_
        show Steps p.tables e below (T209.setTop (mkF m 177 #[.val (.int i1), .val (.int i2), .val (.int i3), .val (.int i4), .val (.int i5), .val (.int (3 : Int32)), .val (.int (1 : Int32)), .val (.int (7 : Int32)), .val (.int (i1 &&& (65535 : Int32))), .val (.int (i2 &&& (65535 : Int32))), .val (.int (i3 &&& (65535 : Int32))), .val (.ref b193), .val (.ref b209_0), .val (.int (1 : Int32))] [(.ref b209_0)])) _
        refine XS.iconst X209.here hx rfl (hb hby at_177) ?_
        show Steps p.tables e below (T209.setTop (mkF m 178 #[.val (.int i1), .val (.int i2), .val (.int i3), .val (.int i4), .val (.int i5), .val (.int (3 : Int32)), .val (.int (1 : Int32)), .val (.int (7 : Int32)), .val (.int (i1 &&& (65535 : Int32))), .val (.int (i2 &&& (65535 : Int32))), .val (.int (i3 &&& (65535 : Int32))), .val (.ref b193), .val (.ref b209_0), .val (.int (1 : Int32))] [(.int (0 : Int32)), (.ref b209_0)])) _
        refine X209.caload hx (j := (0 : Int32)) (v := (.int (nar .char (((((nar .byte ((((i1 &&& (65535 : Int32)).toUInt32 >>> ((8 : Int32) &&& 31).toUInt32).toInt32).toInt8.toInt32)) &&& (255 : Int32)) <<< ((8 : Int32) &&& 31)) ||| ((nar .byte ((i1 &&& (65535 : Int32)).toInt8.toInt32)) &&& (255 : Int32))).toUInt32.toUInt16.toUInt32.toInt32)))) (by exact Ar212.1) (State.isArrayOf_alike hZ.alike Ar212.2.1) Ar212.2.2 hin212 hat212 (g := (mkF m 178 #[.val (.int i1), .val (.int i2), .val (.int i3), .val (.int i4), .val (.int i5), .val (.int (3 : Int32)), .val (.int (1 : Int32)), .val (.int (7 : Int32)), .val (.int (i1 &&& (65535 : Int32))), .val (.int (i2 &&& (65535 : Int32))), .val (.int (i3 &&& (65535 : Int32))), .val (.ref b193), .val (.ref b209_0), .val (.int (1 : Int32))] [(.int (0 : Int32)), (.ref b209_0)])) rfl rfl (hb hby at_178) _ ?_
        show Steps p.tables e below (T209.setTop (mkF m 179 #[.val (.int i1), .val (.int i2), .val (.int i3), .val (.int i4), .val (.int i5), .val (.int (3 : Int32)), .val (.int (1 : Int32)), .val (.int (7 : Int32)), .val (.int (i1 &&& (65535 : Int32))), .val (.int (i2 &&& (65535 : Int32))), .val (.int (i3 &&& (65535 : Int32))), .val (.ref b193), .val (.ref b209_0), .val (.int (1 : Int32))] [(.int (nar .char (((((nar .byte ((((i1 &&& (65535 : Int32)).toUInt32 >>> ((8 : Int32) &&& 31).toUInt32).toInt32).toInt8.toInt32)) &&& (255 : Int32)) <<< ((8 : Int32) &&& 31)) ||| ((nar .byte ((i1 &&& (65535 : Int32)).toInt8.toInt32)) &&& (255 : Int32))).toUInt32.toUInt16.toUInt32.toInt32)))])) _
        refine XS.iload X209.here hx rfl (hb hby at_179) rfl ?_
        exact k
      have pre217 : ∀ t, Steps p.tables e below (T209.setTop (mkF m 189 #[.val (.int i1), .val (.int i2), .val (.int i3), .val (.int i4), .val (.int i5), .val (.int (3 : Int32)), .val (.int (1 : Int32)), .val (.int (7 : Int32)), .val (.int (i1 &&& (65535 : Int32))), .val (.int (i2 &&& (65535 : Int32))), .val (.int (i3 &&& (65535 : Int32))), .val (.ref b193), .val (.ref b209_0), .val (.int (1 : Int32))] [(.int (own_j0_181_0 i1))])) t → Steps p.tables e below (s₁.setTop (entryFrame m #[(.int i1), (.int i2), (.int i3), (.int i4), (.int i5)] maxLocals)) t := by
        by_cases hc181_214 : (nar .char (((((nar .byte ((((i1 &&& (65535 : Int32)).toUInt32 >>> ((8 : Int32) &&& 31).toUInt32).toInt32).toInt8.toInt32)) &&& (255 : Int32)) <<< ((8 : Int32) &&& 31)) ||| ((nar .byte ((i1 &&& (65535 : Int32)).toInt8.toInt32)) &&& (255 : Int32))).toUInt32.toUInt16.toUInt32.toInt32)) = (i1 &&& (65535 : Int32))
        · have pre215 : ∀ t, Steps p.tables e below (T209.setTop (mkF m 189 #[.val (.int i1), .val (.int i2), .val (.int i3), .val (.int i4), .val (.int i5), .val (.int (3 : Int32)), .val (.int (1 : Int32)), .val (.int (7 : Int32)), .val (.int (i1 &&& (65535 : Int32))), .val (.int (i2 &&& (65535 : Int32))), .val (.int (i3 &&& (65535 : Int32))), .val (.ref b193), .val (.ref b209_0), .val (.int (1 : Int32))] [(.int (1 : Int32))])) t → Steps p.tables e below (s₁.setTop (entryFrame m #[(.int i1), (.int i2), (.int i3), (.int i4), (.int i5)] maxLocals)) t := by
            intro t k
            refine pre213 _ ?_
            show Steps p.tables e below (T209.setTop (mkF m 181 #[.val (.int i1), .val (.int i2), .val (.int i3), .val (.int i4), .val (.int i5), .val (.int (3 : Int32)), .val (.int (1 : Int32)), .val (.int (7 : Int32)), .val (.int (i1 &&& (65535 : Int32))), .val (.int (i2 &&& (65535 : Int32))), .val (.int (i3 &&& (65535 : Int32))), .val (.ref b193), .val (.ref b209_0), .val (.int (1 : Int32))] [(.int (i1 &&& (65535 : Int32))), (.int (nar .char (((((nar .byte ((((i1 &&& (65535 : Int32)).toUInt32 >>> ((8 : Int32) &&& 31).toUInt32).toInt32).toInt8.toInt32)) &&& (255 : Int32)) <<< ((8 : Int32) &&& 31)) ||| ((nar .byte ((i1 &&& (65535 : Int32)).toInt8.toInt32)) &&& (255 : Int32))).toUInt32.toUInt16.toUInt32.toInt32)))])) _
            refine XS.icmpNo X209.here hx rfl (hb hby at_181) rfl (teq hc181_214).2 ?_
            show Steps p.tables e below (T209.setTop (mkF m 184 #[.val (.int i1), .val (.int i2), .val (.int i3), .val (.int i4), .val (.int i5), .val (.int (3 : Int32)), .val (.int (1 : Int32)), .val (.int (7 : Int32)), .val (.int (i1 &&& (65535 : Int32))), .val (.int (i2 &&& (65535 : Int32))), .val (.int (i3 &&& (65535 : Int32))), .val (.ref b193), .val (.ref b209_0), .val (.int (1 : Int32))] [])) _
            refine XS.iconst X209.here hx rfl (hb hby at_184) ?_
            show Steps p.tables e below (T209.setTop (mkF m 185 #[.val (.int i1), .val (.int i2), .val (.int i3), .val (.int i4), .val (.int i5), .val (.int (3 : Int32)), .val (.int (1 : Int32)), .val (.int (7 : Int32)), .val (.int (i1 &&& (65535 : Int32))), .val (.int (i2 &&& (65535 : Int32))), .val (.int (i3 &&& (65535 : Int32))), .val (.ref b193), .val (.ref b209_0), .val (.int (1 : Int32))] [(.int (1 : Int32))])) _
            refine XS.goto X209.here hx rfl (pc0 := 185) (pc' := 189) rfl (hb hby at_185) (by decide) (by decide) ?_
            exact k
          exact fun t k => pre215 t (by rw [show (own_j0_181_0 i1) = (1 : Int32) from (if_pos hc181_214)] at k; exact k)
        · have pre216 : ∀ t, Steps p.tables e below (T209.setTop (mkF m 189 #[.val (.int i1), .val (.int i2), .val (.int i3), .val (.int i4), .val (.int i5), .val (.int (3 : Int32)), .val (.int (1 : Int32)), .val (.int (7 : Int32)), .val (.int (i1 &&& (65535 : Int32))), .val (.int (i2 &&& (65535 : Int32))), .val (.int (i3 &&& (65535 : Int32))), .val (.ref b193), .val (.ref b209_0), .val (.int (1 : Int32))] [(.int (0 : Int32))])) t → Steps p.tables e below (s₁.setTop (entryFrame m #[(.int i1), (.int i2), (.int i3), (.int i4), (.int i5)] maxLocals)) t := by
            intro t k
            refine pre213 _ ?_
            show Steps p.tables e below (T209.setTop (mkF m 181 #[.val (.int i1), .val (.int i2), .val (.int i3), .val (.int i4), .val (.int i5), .val (.int (3 : Int32)), .val (.int (1 : Int32)), .val (.int (7 : Int32)), .val (.int (i1 &&& (65535 : Int32))), .val (.int (i2 &&& (65535 : Int32))), .val (.int (i3 &&& (65535 : Int32))), .val (.ref b193), .val (.ref b209_0), .val (.int (1 : Int32))] [(.int (i1 &&& (65535 : Int32))), (.int (nar .char (((((nar .byte ((((i1 &&& (65535 : Int32)).toUInt32 >>> ((8 : Int32) &&& 31).toUInt32).toInt32).toInt8.toInt32)) &&& (255 : Int32)) <<< ((8 : Int32) &&& 31)) ||| ((nar .byte ((i1 &&& (65535 : Int32)).toInt8.toInt32)) &&& (255 : Int32))).toUInt32.toUInt16.toUInt32.toInt32)))])) _
            refine XS.icmpYes X209.here hx rfl (pc0 := 181) (pc' := 188) rfl (hb hby at_181) rfl (feq hc181_214).2 (by decide) (by decide) ?_
            show Steps p.tables e below (T209.setTop (mkF m 188 #[.val (.int i1), .val (.int i2), .val (.int i3), .val (.int i4), .val (.int i5), .val (.int (3 : Int32)), .val (.int (1 : Int32)), .val (.int (7 : Int32)), .val (.int (i1 &&& (65535 : Int32))), .val (.int (i2 &&& (65535 : Int32))), .val (.int (i3 &&& (65535 : Int32))), .val (.ref b193), .val (.ref b209_0), .val (.int (1 : Int32))] [])) _
            refine XS.iconst X209.here hx rfl (hb hby at_188) ?_
            exact k
          exact fun t k => pre216 t (by rw [show (own_j0_181_0 i1) = (0 : Int32) from (if_neg hc181_214)] at k; exact k)
      have pre218 : ∀ t, Steps p.tables e below (T209.setTop (mkF m 199 #[.val (.int i1), .val (.int i2), .val (.int i3), .val (.int i4), .val (.int i5), .val (.int (3 : Int32)), .val (.int (1 : Int32)), .val (.int (7 : Int32)), .val (.int (i1 &&& (65535 : Int32))), .val (.int (i2 &&& (65535 : Int32))), .val (.int (i3 &&& (65535 : Int32))), .val (.ref b193), .val (.ref b209_0), .val (.int (own_j0_181_0 i1))] [(.int (own_j0_181_0 i1))])) t → Steps p.tables e below (s₁.setTop (entryFrame m #[(.int i1), (.int i2), (.int i3), (.int i4), (.int i5)] maxLocals)) t := by
        intro t k
        refine pre217 _ ?_
        show Steps p.tables e below (T209.setTop (mkF m 189 #[.val (.int i1), .val (.int i2), .val (.int i3), .val (.int i4), .val (.int i5), .val (.int (3 : Int32)), .val (.int (1 : Int32)), .val (.int (7 : Int32)), .val (.int (i1 &&& (65535 : Int32))), .val (.int (i2 &&& (65535 : Int32))), .val (.int (i3 &&& (65535 : Int32))), .val (.ref b193), .val (.ref b209_0), .val (.int (1 : Int32))] [(.int (own_j0_181_0 i1))])) _
        refine XS.istore X209.here hx rfl (hb hby at_189) rfl (l' := #[.val (.int i1), .val (.int i2), .val (.int i3), .val (.int i4), .val (.int i5), .val (.int (3 : Int32)), .val (.int (1 : Int32)), .val (.int (7 : Int32)), .val (.int (i1 &&& (65535 : Int32))), .val (.int (i2 &&& (65535 : Int32))), .val (.int (i3 &&& (65535 : Int32))), .val (.ref b193), .val (.ref b209_0), .val (.int (own_j0_181_0 i1))]) rfl ?_
        show Steps p.tables e below (T209.setTop (mkF m 191 #[.val (.int i1), .val (.int i2), .val (.int i3), .val (.int i4), .val (.int i5), .val (.int (3 : Int32)), .val (.int (1 : Int32)), .val (.int (7 : Int32)), .val (.int (i1 &&& (65535 : Int32))), .val (.int (i2 &&& (65535 : Int32))), .val (.int (i3 &&& (65535 : Int32))), .val (.ref b193), .val (.ref b209_0), .val (.int (own_j0_181_0 i1))] [])) _
        refine XS.iload X209.here hx rfl (hb hby at_191) rfl ?_
        show Steps p.tables e below (T209.setTop (mkF m 193 #[.val (.int i1), .val (.int i2), .val (.int i3), .val (.int i4), .val (.int i5), .val (.int (3 : Int32)), .val (.int (1 : Int32)), .val (.int (7 : Int32)), .val (.int (i1 &&& (65535 : Int32))), .val (.int (i2 &&& (65535 : Int32))), .val (.int (i3 &&& (65535 : Int32))), .val (.ref b193), .val (.ref b209_0), .val (.int (own_j0_181_0 i1))] [(.int (3 : Int32))])) _
        refine XS.iconst X209.here hx rfl (hb hby at_193) ?_
        show Steps p.tables e below (T209.setTop (mkF m 194 #[.val (.int i1), .val (.int i2), .val (.int i3), .val (.int i4), .val (.int i5), .val (.int (3 : Int32)), .val (.int (1 : Int32)), .val (.int (7 : Int32)), .val (.int (i1 &&& (65535 : Int32))), .val (.int (i2 &&& (65535 : Int32))), .val (.int (i3 &&& (65535 : Int32))), .val (.ref b193), .val (.ref b209_0), .val (.int (own_j0_181_0 i1))] [(.int (1 : Int32)), (.int (3 : Int32))])) _
        refine XS.icmpNo X209.here hx rfl (hb hby at_194) rfl (tlt (by decide : (1 : Int32) < (3 : Int32))).2.2.2 ?_
        show Steps p.tables e below (T209.setTop (mkF m 197 #[.val (.int i1), .val (.int i2), .val (.int i3), .val (.int i4), .val (.int i5), .val (.int (3 : Int32)), .val (.int (1 : Int32)), .val (.int (7 : Int32)), .val (.int (i1 &&& (65535 : Int32))), .val (.int (i2 &&& (65535 : Int32))), .val (.int (i3 &&& (65535 : Int32))), .val (.ref b193), .val (.ref b209_0), .val (.int (own_j0_181_0 i1))] [])) _
        refine XS.iload X209.here hx rfl (hb hby at_197) rfl ?_
        exact k
      have pre226 : ∀ t, Steps p.tables e below (T209.setTop (mkF m 216 #[.val (.int i1), .val (.int i2), .val (.int i3), .val (.int i4), .val (.int i5), .val (.int (3 : Int32)), .val (.int (1 : Int32)), .val (.int (7 : Int32)), .val (.int (i1 &&& (65535 : Int32))), .val (.int (i2 &&& (65535 : Int32))), .val (.int (i3 &&& (65535 : Int32))), .val (.ref b193), .val (.ref b209_0), .val (.int (own_j0_181_0 i1))] [(.int (own_j0_199_0 i1 i2))])) t → Steps p.tables e below (s₁.setTop (entryFrame m #[(.int i1), (.int i2), (.int i3), (.int i4), (.int i5)] maxLocals)) t := by
        by_cases hc199_219 : (own_j0_181_0 i1) = (0 : Int32)
        · have pre220 : ∀ t, Steps p.tables e below (T209.setTop (mkF m 216 #[.val (.int i1), .val (.int i2), .val (.int i3), .val (.int i4), .val (.int i5), .val (.int (3 : Int32)), .val (.int (1 : Int32)), .val (.int (7 : Int32)), .val (.int (i1 &&& (65535 : Int32))), .val (.int (i2 &&& (65535 : Int32))), .val (.int (i3 &&& (65535 : Int32))), .val (.ref b193), .val (.ref b209_0), .val (.int (own_j0_181_0 i1))] [(.int (0 : Int32))])) t → Steps p.tables e below (s₁.setTop (entryFrame m #[(.int i1), (.int i2), (.int i3), (.int i4), (.int i5)] maxLocals)) t := by
            intro t k
            refine pre218 _ ?_
            show Steps p.tables e below (T209.setTop (mkF m 199 #[.val (.int i1), .val (.int i2), .val (.int i3), .val (.int i4), .val (.int i5), .val (.int (3 : Int32)), .val (.int (1 : Int32)), .val (.int (7 : Int32)), .val (.int (i1 &&& (65535 : Int32))), .val (.int (i2 &&& (65535 : Int32))), .val (.int (i3 &&& (65535 : Int32))), .val (.ref b193), .val (.ref b209_0), .val (.int (own_j0_181_0 i1))] [(.int (own_j0_181_0 i1))])) _
            refine XS.ifYes X209.here hx rfl (pc0 := 199) (pc' := 215) rfl (hb hby at_199) rfl ((if0 _ _).trans (teq hc199_219).1) (by decide) (by decide) ?_
            show Steps p.tables e below (T209.setTop (mkF m 215 #[.val (.int i1), .val (.int i2), .val (.int i3), .val (.int i4), .val (.int i5), .val (.int (3 : Int32)), .val (.int (1 : Int32)), .val (.int (7 : Int32)), .val (.int (i1 &&& (65535 : Int32))), .val (.int (i2 &&& (65535 : Int32))), .val (.int (i3 &&& (65535 : Int32))), .val (.ref b193), .val (.ref b209_0), .val (.int (own_j0_181_0 i1))] [])) _
            refine XS.iconst X209.here hx rfl (hb hby at_215) ?_
            exact k
          exact fun t k => pre220 t (by rw [show (own_j0_199_0 i1 i2) = (0 : Int32) from (if_pos hc199_219)] at k; exact k)
        · obtain ⟨cl221, Ar221, Cq221, Sz221, Nn221, Hh221, Gg221⟩ := id f209_0
          have hin221 : ¬ ((1 : Int32) < 0 ∨ cl221.slots.size ≤ ((1 : Int32)).toNatClampNeg) := inb_of Sz221 ⟨by decide, by decide⟩
          have hat221 : cl221.slots[((1 : Int32)).toNatClampNeg]? = some (.int (nar .char (((((nar .byte ((((i2 &&& (65535 : Int32)).toUInt32 >>> ((8 : Int32) &&& 31).toUInt32).toInt32).toInt8.toInt32)) &&& (255 : Int32)) <<< ((8 : Int32) &&& 31)) ||| ((nar .byte ((i2 &&& (65535 : Int32)).toInt8.toInt32)) &&& (255 : Int32))).toUInt32.toUInt16.toUInt32.toInt32))) := Hh221.at hin221 rfl
          have pre222 : ∀ t, Steps p.tables e below (T209.setTop (mkF m 208 #[.val (.int i1), .val (.int i2), .val (.int i3), .val (.int i4), .val (.int i5), .val (.int (3 : Int32)), .val (.int (1 : Int32)), .val (.int (7 : Int32)), .val (.int (i1 &&& (65535 : Int32))), .val (.int (i2 &&& (65535 : Int32))), .val (.int (i3 &&& (65535 : Int32))), .val (.ref b193), .val (.ref b209_0), .val (.int (own_j0_181_0 i1))] [(.int (i2 &&& (65535 : Int32))), (.int (nar .char (((((nar .byte ((((i2 &&& (65535 : Int32)).toUInt32 >>> ((8 : Int32) &&& 31).toUInt32).toInt32).toInt8.toInt32)) &&& (255 : Int32)) <<< ((8 : Int32) &&& 31)) ||| ((nar .byte ((i2 &&& (65535 : Int32)).toInt8.toInt32)) &&& (255 : Int32))).toUInt32.toUInt16.toUInt32.toInt32)))])) t → Steps p.tables e below (s₁.setTop (entryFrame m #[(.int i1), (.int i2), (.int i3), (.int i4), (.int i5)] maxLocals)) t := by
            intro t k
            refine pre218 _ ?_
            show Steps p.tables e below (T209.setTop (mkF m 199 #[.val (.int i1), .val (.int i2), .val (.int i3), .val (.int i4), .val (.int i5), .val (.int (3 : Int32)), .val (.int (1 : Int32)), .val (.int (7 : Int32)), .val (.int (i1 &&& (65535 : Int32))), .val (.int (i2 &&& (65535 : Int32))), .val (.int (i3 &&& (65535 : Int32))), .val (.ref b193), .val (.ref b209_0), .val (.int (own_j0_181_0 i1))] [(.int (own_j0_181_0 i1))])) _
            refine XS.ifNo X209.here hx rfl (hb hby at_199) rfl ((if0 _ _).trans (feq hc199_219).1) ?_
            show Steps p.tables e below (T209.setTop (mkF m 202 #[.val (.int i1), .val (.int i2), .val (.int i3), .val (.int i4), .val (.int i5), .val (.int (3 : Int32)), .val (.int (1 : Int32)), .val (.int (7 : Int32)), .val (.int (i1 &&& (65535 : Int32))), .val (.int (i2 &&& (65535 : Int32))), .val (.int (i3 &&& (65535 : Int32))), .val (.ref b193), .val (.ref b209_0), .val (.int (own_j0_181_0 i1))] [])) _
            refine XS.aload X209.here hx rfl (hb hby at_202) rfl rfl ?_
            show Steps p.tables e below (T209.setTop (mkF m 204 #[.val (.int i1), .val (.int i2), .val (.int i3), .val (.int i4), .val (.int i5), .val (.int (3 : Int32)), .val (.int (1 : Int32)), .val (.int (7 : Int32)), .val (.int (i1 &&& (65535 : Int32))), .val (.int (i2 &&& (65535 : Int32))), .val (.int (i3 &&& (65535 : Int32))), .val (.ref b193), .val (.ref b209_0), .val (.int (own_j0_181_0 i1))] [(.ref b209_0)])) _
            refine XS.iconst X209.here hx rfl (hb hby at_204) ?_
            show Steps p.tables e below (T209.setTop (mkF m 205 #[.val (.int i1), .val (.int i2), .val (.int i3), .val (.int i4), .val (.int i5), .val (.int (3 : Int32)), .val (.int (1 : Int32)), .val (.int (7 : Int32)), .val (.int (i1 &&& (65535 : Int32))), .val (.int (i2 &&& (65535 : Int32))), .val (.int (i3 &&& (65535 : Int32))), .val (.ref b193), .val (.ref b209_0), .val (.int (own_j0_181_0 i1))] [(.int (1 : Int32)), (.ref b209_0)])) _
            refine X209.caload hx (j := (1 : Int32)) (v := (.int (nar .char (((((nar .byte ((((i2 &&& (65535 : Int32)).toUInt32 >>> ((8 : Int32) &&& 31).toUInt32).toInt32).toInt8.toInt32)) &&& (255 : Int32)) <<< ((8 : Int32) &&& 31)) ||| ((nar .byte ((i2 &&& (65535 : Int32)).toInt8.toInt32)) &&& (255 : Int32))).toUInt32.toUInt16.toUInt32.toInt32)))) (by exact Ar221.1) (State.isArrayOf_alike hZ.alike Ar221.2.1) Ar221.2.2 hin221 hat221 (g := (mkF m 205 #[.val (.int i1), .val (.int i2), .val (.int i3), .val (.int i4), .val (.int i5), .val (.int (3 : Int32)), .val (.int (1 : Int32)), .val (.int (7 : Int32)), .val (.int (i1 &&& (65535 : Int32))), .val (.int (i2 &&& (65535 : Int32))), .val (.int (i3 &&& (65535 : Int32))), .val (.ref b193), .val (.ref b209_0), .val (.int (own_j0_181_0 i1))] [(.int (1 : Int32)), (.ref b209_0)])) rfl rfl (hb hby at_205) _ ?_
            show Steps p.tables e below (T209.setTop (mkF m 206 #[.val (.int i1), .val (.int i2), .val (.int i3), .val (.int i4), .val (.int i5), .val (.int (3 : Int32)), .val (.int (1 : Int32)), .val (.int (7 : Int32)), .val (.int (i1 &&& (65535 : Int32))), .val (.int (i2 &&& (65535 : Int32))), .val (.int (i3 &&& (65535 : Int32))), .val (.ref b193), .val (.ref b209_0), .val (.int (own_j0_181_0 i1))] [(.int (nar .char (((((nar .byte ((((i2 &&& (65535 : Int32)).toUInt32 >>> ((8 : Int32) &&& 31).toUInt32).toInt32).toInt8.toInt32)) &&& (255 : Int32)) <<< ((8 : Int32) &&& 31)) ||| ((nar .byte ((i2 &&& (65535 : Int32)).toInt8.toInt32)) &&& (255 : Int32))).toUInt32.toUInt16.toUInt32.toInt32)))])) _
            refine XS.iload X209.here hx rfl (hb hby at_206) rfl ?_
            exact k
          by_cases hc208_223 : (nar .char (((((nar .byte ((((i2 &&& (65535 : Int32)).toUInt32 >>> ((8 : Int32) &&& 31).toUInt32).toInt32).toInt8.toInt32)) &&& (255 : Int32)) <<< ((8 : Int32) &&& 31)) ||| ((nar .byte ((i2 &&& (65535 : Int32)).toInt8.toInt32)) &&& (255 : Int32))).toUInt32.toUInt16.toUInt32.toInt32)) = (i2 &&& (65535 : Int32))
          · have pre224 : ∀ t, Steps p.tables e below (T209.setTop (mkF m 216 #[.val (.int i1), .val (.int i2), .val (.int i3), .val (.int i4), .val (.int i5), .val (.int (3 : Int32)), .val (.int (1 : Int32)), .val (.int (7 : Int32)), .val (.int (i1 &&& (65535 : Int32))), .val (.int (i2 &&& (65535 : Int32))), .val (.int (i3 &&& (65535 : Int32))), .val (.ref b193), .val (.ref b209_0), .val (.int (own_j0_181_0 i1))] [(.int (1 : Int32))])) t → Steps p.tables e below (s₁.setTop (entryFrame m #[(.int i1), (.int i2), (.int i3), (.int i4), (.int i5)] maxLocals)) t := by
              intro t k
              refine pre222 _ ?_
              show Steps p.tables e below (T209.setTop (mkF m 208 #[.val (.int i1), .val (.int i2), .val (.int i3), .val (.int i4), .val (.int i5), .val (.int (3 : Int32)), .val (.int (1 : Int32)), .val (.int (7 : Int32)), .val (.int (i1 &&& (65535 : Int32))), .val (.int (i2 &&& (65535 : Int32))), .val (.int (i3 &&& (65535 : Int32))), .val (.ref b193), .val (.ref b209_0), .val (.int (own_j0_181_0 i1))] [(.int (i2 &&& (65535 : Int32))), (.int (nar .char (((((nar .byte ((((i2 &&& (65535 : Int32)).toUInt32 >>> ((8 : Int32) &&& 31).toUInt32).toInt32).toInt8.toInt32)) &&& (255 : Int32)) <<< ((8 : Int32) &&& 31)) ||| ((nar .byte ((i2 &&& (65535 : Int32)).toInt8.toInt32)) &&& (255 : Int32))).toUInt32.toUInt16.toUInt32.toInt32)))])) _
              refine XS.icmpNo X209.here hx rfl (hb hby at_208) rfl (teq hc208_223).2 ?_
              show Steps p.tables e below (T209.setTop (mkF m 211 #[.val (.int i1), .val (.int i2), .val (.int i3), .val (.int i4), .val (.int i5), .val (.int (3 : Int32)), .val (.int (1 : Int32)), .val (.int (7 : Int32)), .val (.int (i1 &&& (65535 : Int32))), .val (.int (i2 &&& (65535 : Int32))), .val (.int (i3 &&& (65535 : Int32))), .val (.ref b193), .val (.ref b209_0), .val (.int (own_j0_181_0 i1))] [])) _
              refine XS.iconst X209.here hx rfl (hb hby at_211) ?_
              show Steps p.tables e below (T209.setTop (mkF m 212 #[.val (.int i1), .val (.int i2), .val (.int i3), .val (.int i4), .val (.int i5), .val (.int (3 : Int32)), .val (.int (1 : Int32)), .val (.int (7 : Int32)), .val (.int (i1 &&& (65535 : Int32))), .val (.int (i2 &&& (65535 : Int32))), .val (.int (i3 &&& (65535 : Int32))), .val (.ref b193), .val (.ref b209_0), .val (.int (own_j0_181_0 i1))] [(.int (1 : Int32))])) _
              refine XS.goto X209.here hx rfl (pc0 := 212) (pc' := 216) rfl (hb hby at_212) (by decide) (by decide) ?_
              exact k
            exact fun t k => pre224 t (by rw [show (own_j0_199_0 i1 i2) = (1 : Int32) from ((if_neg hc199_219).trans (if_pos hc208_223))] at k; exact k)
          · have pre225 : ∀ t, Steps p.tables e below (T209.setTop (mkF m 216 #[.val (.int i1), .val (.int i2), .val (.int i3), .val (.int i4), .val (.int i5), .val (.int (3 : Int32)), .val (.int (1 : Int32)), .val (.int (7 : Int32)), .val (.int (i1 &&& (65535 : Int32))), .val (.int (i2 &&& (65535 : Int32))), .val (.int (i3 &&& (65535 : Int32))), .val (.ref b193), .val (.ref b209_0), .val (.int (own_j0_181_0 i1))] [(.int (0 : Int32))])) t → Steps p.tables e below (s₁.setTop (entryFrame m #[(.int i1), (.int i2), (.int i3), (.int i4), (.int i5)] maxLocals)) t := by
              intro t k
              refine pre222 _ ?_
              show Steps p.tables e below (T209.setTop (mkF m 208 #[.val (.int i1), .val (.int i2), .val (.int i3), .val (.int i4), .val (.int i5), .val (.int (3 : Int32)), .val (.int (1 : Int32)), .val (.int (7 : Int32)), .val (.int (i1 &&& (65535 : Int32))), .val (.int (i2 &&& (65535 : Int32))), .val (.int (i3 &&& (65535 : Int32))), .val (.ref b193), .val (.ref b209_0), .val (.int (own_j0_181_0 i1))] [(.int (i2 &&& (65535 : Int32))), (.int (nar .char (((((nar .byte ((((i2 &&& (65535 : Int32)).toUInt32 >>> ((8 : Int32) &&& 31).toUInt32).toInt32).toInt8.toInt32)) &&& (255 : Int32)) <<< ((8 : Int32) &&& 31)) ||| ((nar .byte ((i2 &&& (65535 : Int32)).toInt8.toInt32)) &&& (255 : Int32))).toUInt32.toUInt16.toUInt32.toInt32)))])) _
              refine XS.icmpYes X209.here hx rfl (pc0 := 208) (pc' := 215) rfl (hb hby at_208) rfl (feq hc208_223).2 (by decide) (by decide) ?_
              show Steps p.tables e below (T209.setTop (mkF m 215 #[.val (.int i1), .val (.int i2), .val (.int i3), .val (.int i4), .val (.int i5), .val (.int (3 : Int32)), .val (.int (1 : Int32)), .val (.int (7 : Int32)), .val (.int (i1 &&& (65535 : Int32))), .val (.int (i2 &&& (65535 : Int32))), .val (.int (i3 &&& (65535 : Int32))), .val (.ref b193), .val (.ref b209_0), .val (.int (own_j0_181_0 i1))] [])) _
              refine XS.iconst X209.here hx rfl (hb hby at_215) ?_
              exact k
            exact fun t k => pre225 t (by rw [show (own_j0_199_0 i1 i2) = (0 : Int32) from ((if_neg hc199_219).trans (if_neg hc208_223))] at k; exact k)
      have pre227 : ∀ t, Steps p.tables e below (T209.setTop (mkF m 226 #[.val (.int i1), .val (.int i2), .val (.int i3), .val (.int i4), .val (.int i5), .val (.int (3 : Int32)), .val (.int (1 : Int32)), .val (.int (7 : Int32)), .val (.int (i1 &&& (65535 : Int32))), .val (.int (i2 &&& (65535 : Int32))), .val (.int (i3 &&& (65535 : Int32))), .val (.ref b193), .val (.ref b209_0), .val (.int (own_j0_199_0 i1 i2))] [(.int (own_j0_199_0 i1 i2))])) t → Steps p.tables e below (s₁.setTop (entryFrame m #[(.int i1), (.int i2), (.int i3), (.int i4), (.int i5)] maxLocals)) t := by
        intro t k
        refine pre226 _ ?_
        show Steps p.tables e below (T209.setTop (mkF m 216 #[.val (.int i1), .val (.int i2), .val (.int i3), .val (.int i4), .val (.int i5), .val (.int (3 : Int32)), .val (.int (1 : Int32)), .val (.int (7 : Int32)), .val (.int (i1 &&& (65535 : Int32))), .val (.int (i2 &&& (65535 : Int32))), .val (.int (i3 &&& (65535 : Int32))), .val (.ref b193), .val (.ref b209_0), .val (.int (own_j0_181_0 i1))] [(.int (own_j0_199_0 i1 i2))])) _
        refine XS.istore X209.here hx rfl (hb hby at_216) rfl (l' := #[.val (.int i1), .val (.int i2), .val (.int i3), .val (.int i4), .val (.int i5), .val (.int (3 : Int32)), .val (.int (1 : Int32)), .val (.int (7 : Int32)), .val (.int (i1 &&& (65535 : Int32))), .val (.int (i2 &&& (65535 : Int32))), .val (.int (i3 &&& (65535 : Int32))), .val (.ref b193), .val (.ref b209_0), .val (.int (own_j0_199_0 i1 i2))]) rfl ?_
        show Steps p.tables e below (T209.setTop (mkF m 218 #[.val (.int i1), .val (.int i2), .val (.int i3), .val (.int i4), .val (.int i5), .val (.int (3 : Int32)), .val (.int (1 : Int32)), .val (.int (7 : Int32)), .val (.int (i1 &&& (65535 : Int32))), .val (.int (i2 &&& (65535 : Int32))), .val (.int (i3 &&& (65535 : Int32))), .val (.ref b193), .val (.ref b209_0), .val (.int (own_j0_199_0 i1 i2))] [])) _
        refine XS.iload X209.here hx rfl (hb hby at_218) rfl ?_
        show Steps p.tables e below (T209.setTop (mkF m 220 #[.val (.int i1), .val (.int i2), .val (.int i3), .val (.int i4), .val (.int i5), .val (.int (3 : Int32)), .val (.int (1 : Int32)), .val (.int (7 : Int32)), .val (.int (i1 &&& (65535 : Int32))), .val (.int (i2 &&& (65535 : Int32))), .val (.int (i3 &&& (65535 : Int32))), .val (.ref b193), .val (.ref b209_0), .val (.int (own_j0_199_0 i1 i2))] [(.int (3 : Int32))])) _
        refine XS.iconst X209.here hx rfl (hb hby at_220) ?_
        show Steps p.tables e below (T209.setTop (mkF m 221 #[.val (.int i1), .val (.int i2), .val (.int i3), .val (.int i4), .val (.int i5), .val (.int (3 : Int32)), .val (.int (1 : Int32)), .val (.int (7 : Int32)), .val (.int (i1 &&& (65535 : Int32))), .val (.int (i2 &&& (65535 : Int32))), .val (.int (i3 &&& (65535 : Int32))), .val (.ref b193), .val (.ref b209_0), .val (.int (own_j0_199_0 i1 i2))] [(.int (2 : Int32)), (.int (3 : Int32))])) _
        refine XS.icmpNo X209.here hx rfl (hb hby at_221) rfl (tlt (by decide : (2 : Int32) < (3 : Int32))).2.2.2 ?_
        show Steps p.tables e below (T209.setTop (mkF m 224 #[.val (.int i1), .val (.int i2), .val (.int i3), .val (.int i4), .val (.int i5), .val (.int (3 : Int32)), .val (.int (1 : Int32)), .val (.int (7 : Int32)), .val (.int (i1 &&& (65535 : Int32))), .val (.int (i2 &&& (65535 : Int32))), .val (.int (i3 &&& (65535 : Int32))), .val (.ref b193), .val (.ref b209_0), .val (.int (own_j0_199_0 i1 i2))] [])) _
        refine XS.iload X209.here hx rfl (hb hby at_224) rfl ?_
        exact k
      have pre235 : ∀ t, Steps p.tables e below (T209.setTop (mkF m 243 #[.val (.int i1), .val (.int i2), .val (.int i3), .val (.int i4), .val (.int i5), .val (.int (3 : Int32)), .val (.int (1 : Int32)), .val (.int (7 : Int32)), .val (.int (i1 &&& (65535 : Int32))), .val (.int (i2 &&& (65535 : Int32))), .val (.int (i3 &&& (65535 : Int32))), .val (.ref b193), .val (.ref b209_0), .val (.int (own_j0_199_0 i1 i2))] [(.int (own_j0_226_0 i1 i2 i3))])) t → Steps p.tables e below (s₁.setTop (entryFrame m #[(.int i1), (.int i2), (.int i3), (.int i4), (.int i5)] maxLocals)) t := by
        by_cases hc226_228 : (own_j0_199_0 i1 i2) = (0 : Int32)
        · have pre229 : ∀ t, Steps p.tables e below (T209.setTop (mkF m 243 #[.val (.int i1), .val (.int i2), .val (.int i3), .val (.int i4), .val (.int i5), .val (.int (3 : Int32)), .val (.int (1 : Int32)), .val (.int (7 : Int32)), .val (.int (i1 &&& (65535 : Int32))), .val (.int (i2 &&& (65535 : Int32))), .val (.int (i3 &&& (65535 : Int32))), .val (.ref b193), .val (.ref b209_0), .val (.int (own_j0_199_0 i1 i2))] [(.int (0 : Int32))])) t → Steps p.tables e below (s₁.setTop (entryFrame m #[(.int i1), (.int i2), (.int i3), (.int i4), (.int i5)] maxLocals)) t := by
            intro t k
            refine pre227 _ ?_
            show Steps p.tables e below (T209.setTop (mkF m 226 #[.val (.int i1), .val (.int i2), .val (.int i3), .val (.int i4), .val (.int i5), .val (.int (3 : Int32)), .val (.int (1 : Int32)), .val (.int (7 : Int32)), .val (.int (i1 &&& (65535 : Int32))), .val (.int (i2 &&& (65535 : Int32))), .val (.int (i3 &&& (65535 : Int32))), .val (.ref b193), .val (.ref b209_0), .val (.int (own_j0_199_0 i1 i2))] [(.int (own_j0_199_0 i1 i2))])) _
            refine XS.ifYes X209.here hx rfl (pc0 := 226) (pc' := 242) rfl (hb hby at_226) rfl ((if0 _ _).trans (teq hc226_228).1) (by decide) (by decide) ?_
            show Steps p.tables e below (T209.setTop (mkF m 242 #[.val (.int i1), .val (.int i2), .val (.int i3), .val (.int i4), .val (.int i5), .val (.int (3 : Int32)), .val (.int (1 : Int32)), .val (.int (7 : Int32)), .val (.int (i1 &&& (65535 : Int32))), .val (.int (i2 &&& (65535 : Int32))), .val (.int (i3 &&& (65535 : Int32))), .val (.ref b193), .val (.ref b209_0), .val (.int (own_j0_199_0 i1 i2))] [])) _
            refine XS.iconst X209.here hx rfl (hb hby at_242) ?_
            exact k
          exact fun t k => pre229 t (by rw [show (own_j0_226_0 i1 i2 i3) = (0 : Int32) from (if_pos hc226_228)] at k; exact k)
        · obtain ⟨cl230, Ar230, Cq230, Sz230, Nn230, Hh230, Gg230⟩ := id f209_0
          have hin230 : ¬ ((2 : Int32) < 0 ∨ cl230.slots.size ≤ ((2 : Int32)).toNatClampNeg) := inb_of Sz230 ⟨by decide, by decide⟩
          have hat230 : cl230.slots[((2 : Int32)).toNatClampNeg]? = some (.int (nar .char (((((nar .byte ((((i3 &&& (65535 : Int32)).toUInt32 >>> ((8 : Int32) &&& 31).toUInt32).toInt32).toInt8.toInt32)) &&& (255 : Int32)) <<< ((8 : Int32) &&& 31)) ||| ((nar .byte ((i3 &&& (65535 : Int32)).toInt8.toInt32)) &&& (255 : Int32))).toUInt32.toUInt16.toUInt32.toInt32))) := Hh230.at hin230 rfl
          have pre231 : ∀ t, Steps p.tables e below (T209.setTop (mkF m 235 #[.val (.int i1), .val (.int i2), .val (.int i3), .val (.int i4), .val (.int i5), .val (.int (3 : Int32)), .val (.int (1 : Int32)), .val (.int (7 : Int32)), .val (.int (i1 &&& (65535 : Int32))), .val (.int (i2 &&& (65535 : Int32))), .val (.int (i3 &&& (65535 : Int32))), .val (.ref b193), .val (.ref b209_0), .val (.int (own_j0_199_0 i1 i2))] [(.int (i3 &&& (65535 : Int32))), (.int (nar .char (((((nar .byte ((((i3 &&& (65535 : Int32)).toUInt32 >>> ((8 : Int32) &&& 31).toUInt32).toInt32).toInt8.toInt32)) &&& (255 : Int32)) <<< ((8 : Int32) &&& 31)) ||| ((nar .byte ((i3 &&& (65535 : Int32)).toInt8.toInt32)) &&& (255 : Int32))).toUInt32.toUInt16.toUInt32.toInt32)))])) t → Steps p.tables e below (s₁.setTop (entryFrame m #[(.int i1), (.int i2), (.int i3), (.int i4), (.int i5)] maxLocals)) t := by
            intro t k
            refine pre227 _ ?_
            show Steps p.tables e below (T209.setTop (mkF m 226 #[.val (.int i1), .val (.int i2), .val (.int i3), .val (.int i4), .val (.int i5), .val (.int (3 : Int32)), .val (.int (1 : Int32)), .val (.int (7 : Int32)), .val (.int (i1 &&& (65535 : Int32))), .val (.int (i2 &&& (65535 : Int32))), .val (.int (i3 &&& (65535 : Int32))), .val (.ref b193), .val (.ref b209_0), .val (.int (own_j0_199_0 i1 i2))] [(.int (own_j0_199_0 i1 i2))])) _
            refine XS.ifNo X209.here hx rfl (hb hby at_226) rfl ((if0 _ _).trans (feq hc226_228).1) ?_
            show Steps p.tables e below (T209.setTop (mkF m 229 #[.val (.int i1), .val (.int i2), .val (.int i3), .val (.int i4), .val (.int i5), .val (.int (3 : Int32)), .val (.int (1 : Int32)), .val (.int (7 : Int32)), .val (.int (i1 &&& (65535 : Int32))), .val (.int (i2 &&& (65535 : Int32))), .val (.int (i3 &&& (65535 : Int32))), .val (.ref b193), .val (.ref b209_0), .val (.int (own_j0_199_0 i1 i2))] [])) _
            refine XS.aload X209.here hx rfl (hb hby at_229) rfl rfl ?_
            show Steps p.tables e below (T209.setTop (mkF m 231 #[.val (.int i1), .val (.int i2), .val (.int i3), .val (.int i4), .val (.int i5), .val (.int (3 : Int32)), .val (.int (1 : Int32)), .val (.int (7 : Int32)), .val (.int (i1 &&& (65535 : Int32))), .val (.int (i2 &&& (65535 : Int32))), .val (.int (i3 &&& (65535 : Int32))), .val (.ref b193), .val (.ref b209_0), .val (.int (own_j0_199_0 i1 i2))] [(.ref b209_0)])) _
            refine XS.iconst X209.here hx rfl (hb hby at_231) ?_
            show Steps p.tables e below (T209.setTop (mkF m 232 #[.val (.int i1), .val (.int i2), .val (.int i3), .val (.int i4), .val (.int i5), .val (.int (3 : Int32)), .val (.int (1 : Int32)), .val (.int (7 : Int32)), .val (.int (i1 &&& (65535 : Int32))), .val (.int (i2 &&& (65535 : Int32))), .val (.int (i3 &&& (65535 : Int32))), .val (.ref b193), .val (.ref b209_0), .val (.int (own_j0_199_0 i1 i2))] [(.int (2 : Int32)), (.ref b209_0)])) _
            refine X209.caload hx (j := (2 : Int32)) (v := (.int (nar .char (((((nar .byte ((((i3 &&& (65535 : Int32)).toUInt32 >>> ((8 : Int32) &&& 31).toUInt32).toInt32).toInt8.toInt32)) &&& (255 : Int32)) <<< ((8 : Int32) &&& 31)) ||| ((nar .byte ((i3 &&& (65535 : Int32)).toInt8.toInt32)) &&& (255 : Int32))).toUInt32.toUInt16.toUInt32.toInt32)))) (by exact Ar230.1) (State.isArrayOf_alike hZ.alike Ar230.2.1) Ar230.2.2 hin230 hat230 (g := (mkF m 232 #[.val (.int i1), .val (.int i2), .val (.int i3), .val (.int i4), .val (.int i5), .val (.int (3 : Int32)), .val (.int (1 : Int32)), .val (.int (7 : Int32)), .val (.int (i1 &&& (65535 : Int32))), .val (.int (i2 &&& (65535 : Int32))), .val (.int (i3 &&& (65535 : Int32))), .val (.ref b193), .val (.ref b209_0), .val (.int (own_j0_199_0 i1 i2))] [(.int (2 : Int32)), (.ref b209_0)])) rfl rfl (hb hby at_232) _ ?_
            show Steps p.tables e below (T209.setTop (mkF m 233 #[.val (.int i1), .val (.int i2), .val (.int i3), .val (.int i4), .val (.int i5), .val (.int (3 : Int32)), .val (.int (1 : Int32)), .val (.int (7 : Int32)), .val (.int (i1 &&& (65535 : Int32))), .val (.int (i2 &&& (65535 : Int32))), .val (.int (i3 &&& (65535 : Int32))), .val (.ref b193), .val (.ref b209_0), .val (.int (own_j0_199_0 i1 i2))] [(.int (nar .char (((((nar .byte ((((i3 &&& (65535 : Int32)).toUInt32 >>> ((8 : Int32) &&& 31).toUInt32).toInt32).toInt8.toInt32)) &&& (255 : Int32)) <<< ((8 : Int32) &&& 31)) ||| ((nar .byte ((i3 &&& (65535 : Int32)).toInt8.toInt32)) &&& (255 : Int32))).toUInt32.toUInt16.toUInt32.toInt32)))])) _
            refine XS.iload X209.here hx rfl (hb hby at_233) rfl ?_
            exact k
          by_cases hc235_232 : (nar .char (((((nar .byte ((((i3 &&& (65535 : Int32)).toUInt32 >>> ((8 : Int32) &&& 31).toUInt32).toInt32).toInt8.toInt32)) &&& (255 : Int32)) <<< ((8 : Int32) &&& 31)) ||| ((nar .byte ((i3 &&& (65535 : Int32)).toInt8.toInt32)) &&& (255 : Int32))).toUInt32.toUInt16.toUInt32.toInt32)) = (i3 &&& (65535 : Int32))
          · have pre233 : ∀ t, Steps p.tables e below (T209.setTop (mkF m 243 #[.val (.int i1), .val (.int i2), .val (.int i3), .val (.int i4), .val (.int i5), .val (.int (3 : Int32)), .val (.int (1 : Int32)), .val (.int (7 : Int32)), .val (.int (i1 &&& (65535 : Int32))), .val (.int (i2 &&& (65535 : Int32))), .val (.int (i3 &&& (65535 : Int32))), .val (.ref b193), .val (.ref b209_0), .val (.int (own_j0_199_0 i1 i2))] [(.int (1 : Int32))])) t → Steps p.tables e below (s₁.setTop (entryFrame m #[(.int i1), (.int i2), (.int i3), (.int i4), (.int i5)] maxLocals)) t := by
              intro t k
              refine pre231 _ ?_
              show Steps p.tables e below (T209.setTop (mkF m 235 #[.val (.int i1), .val (.int i2), .val (.int i3), .val (.int i4), .val (.int i5), .val (.int (3 : Int32)), .val (.int (1 : Int32)), .val (.int (7 : Int32)), .val (.int (i1 &&& (65535 : Int32))), .val (.int (i2 &&& (65535 : Int32))), .val (.int (i3 &&& (65535 : Int32))), .val (.ref b193), .val (.ref b209_0), .val (.int (own_j0_199_0 i1 i2))] [(.int (i3 &&& (65535 : Int32))), (.int (nar .char (((((nar .byte ((((i3 &&& (65535 : Int32)).toUInt32 >>> ((8 : Int32) &&& 31).toUInt32).toInt32).toInt8.toInt32)) &&& (255 : Int32)) <<< ((8 : Int32) &&& 31)) ||| ((nar .byte ((i3 &&& (65535 : Int32)).toInt8.toInt32)) &&& (255 : Int32))).toUInt32.toUInt16.toUInt32.toInt32)))])) _
              refine XS.icmpNo X209.here hx rfl (hb hby at_235) rfl (teq hc235_232).2 ?_
              show Steps p.tables e below (T209.setTop (mkF m 238 #[.val (.int i1), .val (.int i2), .val (.int i3), .val (.int i4), .val (.int i5), .val (.int (3 : Int32)), .val (.int (1 : Int32)), .val (.int (7 : Int32)), .val (.int (i1 &&& (65535 : Int32))), .val (.int (i2 &&& (65535 : Int32))), .val (.int (i3 &&& (65535 : Int32))), .val (.ref b193), .val (.ref b209_0), .val (.int (own_j0_199_0 i1 i2))] [])) _
              refine XS.iconst X209.here hx rfl (hb hby at_238) ?_
              show Steps p.tables e below (T209.setTop (mkF m 239 #[.val (.int i1), .val (.int i2), .val (.int i3), .val (.int i4), .val (.int i5), .val (.int (3 : Int32)), .val (.int (1 : Int32)), .val (.int (7 : Int32)), .val (.int (i1 &&& (65535 : Int32))), .val (.int (i2 &&& (65535 : Int32))), .val (.int (i3 &&& (65535 : Int32))), .val (.ref b193), .val (.ref b209_0), .val (.int (own_j0_199_0 i1 i2))] [(.int (1 : Int32))])) _
              refine XS.goto X209.here hx rfl (pc0 := 239) (pc' := 243) rfl (hb hby at_239) (by decide) (by decide) ?_
              exact k
            exact fun t k => pre233 t (by rw [show (own_j0_226_0 i1 i2 i3) = (1 : Int32) from ((if_neg hc226_228).trans (if_pos hc235_232))] at k; exact k)
          · have pre234 : ∀ t, Steps p.tables e below (T209.setTop (mkF m 243 #[.val (.int i1), .val (.int i2), .val (.int i3), .val (.int i4), .val (.int i5), .val (.int (3 : Int32)), .val (.int (1 : Int32)), .val (.int (7 : Int32)), .val (.int (i1 &&& (65535 : Int32))), .val (.int (i2 &&& (65535 : Int32))), .val (.int (i3 &&& (65535 : Int32))), .val (.ref b193), .val (.ref b209_0), .val (.int (own_j0_199_0 i1 i2))] [(.int (0 : Int32))])) t → Steps p.tables e below (s₁.setTop (entryFrame m #[(.int i1), (.int i2), (.int i3), (.int i4), (.int i5)] maxLocals)) t := by
              intro t k
              refine pre231 _ ?_
              show Steps p.tables e below (T209.setTop (mkF m 235 #[.val (.int i1), .val (.int i2), .val (.int i3), .val (.int i4), .val (.int i5), .val (.int (3 : Int32)), .val (.int (1 : Int32)), .val (.int (7 : Int32)), .val (.int (i1 &&& (65535 : Int32))), .val (.int (i2 &&& (65535 : Int32))), .val (.int (i3 &&& (65535 : Int32))), .val (.ref b193), .val (.ref b209_0), .val (.int (own_j0_199_0 i1 i2))] [(.int (i3 &&& (65535 : Int32))), (.int (nar .char (((((nar .byte ((((i3 &&& (65535 : Int32)).toUInt32 >>> ((8 : Int32) &&& 31).toUInt32).toInt32).toInt8.toInt32)) &&& (255 : Int32)) <<< ((8 : Int32) &&& 31)) ||| ((nar .byte ((i3 &&& (65535 : Int32)).toInt8.toInt32)) &&& (255 : Int32))).toUInt32.toUInt16.toUInt32.toInt32)))])) _
              refine XS.icmpYes X209.here hx rfl (pc0 := 235) (pc' := 242) rfl (hb hby at_235) rfl (feq hc235_232).2 (by decide) (by decide) ?_
              show Steps p.tables e below (T209.setTop (mkF m 242 #[.val (.int i1), .val (.int i2), .val (.int i3), .val (.int i4), .val (.int i5), .val (.int (3 : Int32)), .val (.int (1 : Int32)), .val (.int (7 : Int32)), .val (.int (i1 &&& (65535 : Int32))), .val (.int (i2 &&& (65535 : Int32))), .val (.int (i3 &&& (65535 : Int32))), .val (.ref b193), .val (.ref b209_0), .val (.int (own_j0_199_0 i1 i2))] [])) _
              refine XS.iconst X209.here hx rfl (hb hby at_242) ?_
              exact k
            exact fun t k => pre234 t (by rw [show (own_j0_226_0 i1 i2 i3) = (0 : Int32) from ((if_neg hc226_228).trans (if_neg hc235_232))] at k; exact k)
      have pre236 : ∀ t, Steps p.tables e below (T209.setTop (mkF m 247 #[.val (.int i1), .val (.int i2), .val (.int i3), .val (.int i4), .val (.int i5), .val (.int (3 : Int32)), .val (.int (1 : Int32)), .val (.int (7 : Int32)), .val (.int (i1 &&& (65535 : Int32))), .val (.int (i2 &&& (65535 : Int32))), .val (.int (i3 &&& (65535 : Int32))), .val (.ref b193), .val (.ref b209_0), .val (.int (own_j0_226_0 i1 i2 i3))] [(.int (own_j0_226_0 i1 i2 i3))])) t → Steps p.tables e below (s₁.setTop (entryFrame m #[(.int i1), (.int i2), (.int i3), (.int i4), (.int i5)] maxLocals)) t := by
        intro t k
        refine pre235 _ ?_
        show Steps p.tables e below (T209.setTop (mkF m 243 #[.val (.int i1), .val (.int i2), .val (.int i3), .val (.int i4), .val (.int i5), .val (.int (3 : Int32)), .val (.int (1 : Int32)), .val (.int (7 : Int32)), .val (.int (i1 &&& (65535 : Int32))), .val (.int (i2 &&& (65535 : Int32))), .val (.int (i3 &&& (65535 : Int32))), .val (.ref b193), .val (.ref b209_0), .val (.int (own_j0_199_0 i1 i2))] [(.int (own_j0_226_0 i1 i2 i3))])) _
        refine XS.istore X209.here hx rfl (hb hby at_243) rfl (l' := #[.val (.int i1), .val (.int i2), .val (.int i3), .val (.int i4), .val (.int i5), .val (.int (3 : Int32)), .val (.int (1 : Int32)), .val (.int (7 : Int32)), .val (.int (i1 &&& (65535 : Int32))), .val (.int (i2 &&& (65535 : Int32))), .val (.int (i3 &&& (65535 : Int32))), .val (.ref b193), .val (.ref b209_0), .val (.int (own_j0_226_0 i1 i2 i3))]) rfl ?_
        show Steps p.tables e below (T209.setTop (mkF m 245 #[.val (.int i1), .val (.int i2), .val (.int i3), .val (.int i4), .val (.int i5), .val (.int (3 : Int32)), .val (.int (1 : Int32)), .val (.int (7 : Int32)), .val (.int (i1 &&& (65535 : Int32))), .val (.int (i2 &&& (65535 : Int32))), .val (.int (i3 &&& (65535 : Int32))), .val (.ref b193), .val (.ref b209_0), .val (.int (own_j0_226_0 i1 i2 i3))] [])) _
        refine XS.iload X209.here hx rfl (hb hby at_245) rfl ?_
        exact k
      obtain ⟨fs, hr, hrun, hended, hW, hsame⟩ := X209.leave (v := some (.int (nar .boolean (own_j0_226_0 i1 i2 i3)))) (fun h => by rw [Bd.returns] at h; cases h)
      refine ⟨_, _, pre236 _ ?_, hrun, hended, _, _, rfl, ?_, ⟨_, rfl⟩, hW, hsame.mono (by decide) (by decide)⟩
      · show Steps p.tables e below (T209.setTop (mkF m 247 #[.val (.int i1), .val (.int i2), .val (.int i3), .val (.int i4), .val (.int i5), .val (.int (3 : Int32)), .val (.int (1 : Int32)), .val (.int (7 : Int32)), .val (.int (i1 &&& (65535 : Int32))), .val (.int (i2 &&& (65535 : Int32))), .val (.int (i3 &&& (65535 : Int32))), .val (.ref b193), .val (.ref b209_0), .val (.int (own_j0_226_0 i1 i2 i3))] [(.int (own_j0_226_0 i1 i2 i3))])) _
        exact retN X209 hx (t := .boolean) Bd.returns (by simp) (hb hby at_247) hr
      · show Q0 Z i1 i2 i3 i4 i5 h0 n0 _ T209.heap _
        exact ⟨congrArg (fun z => some (Value.int z)) (show (own_r0 i1 i2 i3 i5) = (nar .boolean (own_j0_226_0 i1 i2 i3)) from ((if_neg (by rw [hk2]; decide)).trans ((if_neg (by rw [hk2]; decide)).trans ((if_neg (by rw [hk2]; decide)).trans (if_neg (by rw [hk148]; decide)))))).symm, N209⟩
theorem own_law (i1 : Int32) (i2 : Int32) (i3 : Int32) (i4 : Int32) (i5 : Int32) : (own_r0 i1 i2 i3 i5) = 1 := by
  have e1 : own_j0_181_0 i1 = 1 := if_pos (own_two i1)
  have e2 : own_j0_199_0 i1 i2 = 1 := by unfold own_j0_199_0; rw [e1, if_neg (by decide)]; exact if_pos (own_two i2)
  have e3 : own_j0_226_0 i1 i2 i3 = 1 := by unfold own_j0_226_0; rw [e2, if_neg (by decide)]; exact if_pos (own_two i3)
  unfold own_r0
  rw [e1, e2, e3]
  repeat' split
  all_goals rfl
set_option maxRecDepth 65536 in
set_option maxHeartbeats 40000000 in
theorem comes_1 {Post : Tables → Env → Array Value → State → Outcome → State → Prop} (hpost : ∀ tb e args s v u, (limb_1_1.after args s (.returned v) u = true ∧ limb_1_2.after args s (.returned v) u = true ∧ True) → FrameEnd s (.returned v) u (Jvm.fieldLocs frame_1_writes args s ++ Jvm.arrayLocs frame_1_arrays args s ++ Jvm.staticLocs frame_1_statics s) 16 128 → Post tb e args s (.returned v) u) :
    ArmFor flags0 classFile x code maxLocals ret World_1 tables_1 room_1 Calls_1 rest_1 Pre_1 Post := by
  intro l hfl _ _ p e ha hc hk s m args below hf hA hF happ hP
  obtain ⟨hcalls, hrest, hpre⟩ := hP
  obtain ⟨-, -, -, hnamed, -, -, -, hat⟩ := (Spec.applies_iff hf).mp happ
  obtain ⟨hg, hn⟩ := and_e (Cond.before_iff.mp (show (Jvm.Cond.and given_1 narrow_1).before args s = true from hpre))
  obtain ⟨g1, g2⟩ := and_e hg
  obtain ⟨g3, g4⟩ := and_e g2
  obtain ⟨g5, g6⟩ := and_e g4
  obtain ⟨g7, g8⟩ := and_e g6
  obtain ⟨g9, g10⟩ := and_e g8
  obtain ⟨w0, w1, w2, w3, w4, rfl⟩ : ∃ w0 w1 w2 w3 w4 : Value, args = #[w0, w1, w2, w3, w4] := by
    have hs : args.size = 5 := by simpa [Cond.value, given_1] using g1
    obtain ⟨L⟩ := args
    match L, hs with
    | [w0, w1, w2, w3, w4], _ => exact ⟨w0, w1, w2, w3, w4, rfl⟩
  have hw := fun d (hd : d ∈ tables_1) => atoms_spec (ws := Jvm.Cond.code x code maxLocals ret :: tables_1) hat d (List.mem_cons_of_mem _ hd)
  have hfit : Fit s := fun {y c} hc i hi => by
    obtain ⟨ha, rfl⟩ := Array.getElem?_eq_some_iff.mp hc
    have q := List.all_eq_true.mp ((Array.all_eq_true_iff_forall_mem.mp hF) _ (Array.getElem_mem ha)) i (List.mem_range.mpr hi)
    simpa [Array.getElem?_eq_getElem hi] using q
  obtain ⟨i0, ei0⟩ := is_v g3
  obtain rfl : w0 = (.int i0) := Option.some.inj ei0
  obtain ⟨i1, ei1⟩ := is_v g5
  obtain rfl : w1 = (.int i1) := Option.some.inj ei1
  obtain ⟨i2, ei2⟩ := is_v g7
  obtain rfl : w2 = (.int i2) := Option.some.inj ei2
  obtain ⟨i3, ei3⟩ := is_v g9
  obtain rfl : w3 = (.int i3) := Option.some.inj ei3
  obtain ⟨i4, ei4⟩ := is_v g10
  obtain rfl : w4 = (.int i4) := Option.some.inj ei4
  obtain ⟨n, o, h1, h2, h3, _, L, rfl, ⟨hv, N⟩, hq⟩ := rm0 l s _ hw tables_1 i0 i1 i2 i3 i4 s.heap s.heap.size (Nat.le_refl _)  p e ha hc hk s m _ below hf ((Spec.applies_iff_loose hf).mp happ).1 ⟨rfl, State.Warmed39.refl s, rfl⟩ trivial
  rw [show (own_r0 i0 i1 i2 i4) = 1 from own_law i0 i1 i2 i3 i4] at hv
  subst hv
  refine ⟨n, _, h1, h2, h3, hpost _ _ _ _ _ _ ⟨Cond.after_iff.mpr rfl, Cond.after_iff.mpr (eq_i res_at (Term.int_eval (1)) rfl), trivial⟩ ⟨hq.1, hq.2.1, (hq.2.2.sift fun y hy => Or.inr (N y hy)).mono (by decide) (by decide)⟩⟩
theorem main_1_1 : Claimed_1_1 := comes_1 fun _ _ _ _ _ _ h hF => ⟨h.1, hF⟩
theorem main_1_2 : Claimed_1_2 := comes_1 fun _ _ _ _ _ _ h hF => ⟨h.2.1, hF⟩
end Jvm.Pilot.@@N@@
namespace Jvm.Pilot.@@N@@
open Jvm Jvm.ClassFile Sem Op Lib Jvm.Free Jvm.Stand Jvm.Pilot.@@N@@.Jvm.D
/-! MADE BY PROGRAM (witnessworld.py) out of the Statement's table words and the real class files: 11 classes; the members and pool entries that the words name. The judged class is class 1, her method 1. -/
namespace start1
open Jvm.ClassFile
def u (s : String) : CpInfo := .utf8 (stringToUtf16 s)
/-- a pool by its gaps: so many unusable entries, then the entry; so many at the end -/
def gap : Nat → List CpInfo → List CpInfo
  | 0, r => r
  | n + 1, r => .unusable :: gap n r
def poolList (es : List (Nat × CpInfo)) (last : Nat) : List CpInfo := es.foldr (fun e r => gap e.1 (e.2 :: r)) (gap last [])
def pool (es : List (Nat × CpInfo)) (last : Nat) : Array CpInfo := ⟨poolList es last⟩
def fileOf (pool : Array CpInfo) (this : Nat) (attrs : Array Attribute := #[]) (ms : Array MethodInfo := #[]) (fl : Nat := 33) (sup : Nat := 0) (ifs : Array Nat := #[]) (fds : Array FieldInfo := #[]) : ClassFile where
  minorVersion := 0
  majorVersion := 65
  constantPool := pool
  accessFlags := fl
  thisClass := this
  superClass := sup
  interfaces := ifs
  fields := fds
  methods := ms
  attributes := attrs
def plain (name : String) (sup : Option ClassId) : Class where
  name := name
  kind := .ordinary
  loader := none
  accessFlags := 33
  super := sup
  interfaces := #[]
  cf := none
  fields := #[]
  methods := #[]
  instanceTypes := #[]
  staticTypes := #[]
  resolved := #[]
  callSites := []
  init := .initialized
  statics := none
  mirror := none

def pool0 : Array CpInfo := pool [(5, u "<init>"), (0, u "()V"), (1, .class_ 10), (1, u "java/lang/Object")] 113

def k0m0 : Method := { name := "<init>", desc := "()V", sig := { parameters := [], returnType := none }, accessFlags := 1, code := none }
/-- java/lang/Object -/
def k0 : Class := { plain "java/lang/Object" none with
  accessFlags := 33
  interfaces := #[]
  cf := some (fileOf pool0 8 #[] #[{ accessFlags := 1, nameIndex := 5, descriptorIndex := 6, attributes := #[] }] 33 0 #[] #[])
  fields := #[]
  methods := #[k0m0]
  instanceTypes := #[]
  staticTypes := #[]
  resolved := Array.replicate 124 none
  statics := none }

def pool1 : Array CpInfo := pool [(2, .class_ 4), (1, u "java/lang/Object"), (0, u "<init>"), (0, u "()V"), (0, .integer 65535), (0, .methodref 9 10), (0, .class_ 11), (0, .nameAndType 12 13), (0, u "com/example/aschenputtel/aschenputtel/values/UcaWeights"), (0, u "keyCharacters"), (0, u "([B)[C"), (0, .class_ 15), (0, u "com/example/aschenputtel/aschenputtel/values/UcaWeightsKeyCharactersPinLaw"), (2, u "law"), (0, u "(IIIII)Z")] 7

def k1m0 : Method := { name := "<init>", desc := "()V", sig := { parameters := [], returnType := none }, accessFlags := 1, code := none }
def k1c1 : Code := { maxStack := 4, maxLocals := 14, code := code, exceptionTable := #[], attributes := #[] }
def k1m1 : Method := { name := "law", desc := "(IIIII)Z", sig := { parameters := [.int, .int, .int, .int, .int], returnType := some .boolean }, accessFlags := 9, code := some k1c1 }
/-- com/example/aschenputtel/aschenputtel/values/UcaWeightsKeyCharactersPinLaw -/
def k1 : Class := { plain "com/example/aschenputtel/aschenputtel/values/UcaWeightsKeyCharactersPinLaw" (some 0) with
  accessFlags := 49
  interfaces := #[]
  cf := some (fileOf pool1 14 #[] #[{ accessFlags := 1, nameIndex := 5, descriptorIndex := 6, attributes := #[] }, { accessFlags := 9, nameIndex := 18, descriptorIndex := 19, attributes := #[] }] 49 2 #[] #[])
  fields := #[]
  methods := #[k1m0, k1m1]
  instanceTypes := #[]
  staticTypes := #[]
  resolved := Array.replicate 27 none
  statics := none }

def pool2 : Array CpInfo := pool [(2, .class_ 4), (1, u "java/lang/Object"), (6, .class_ 13), (1, u "com/example/aschenputtel/aschenputtel/values/UcaWeights"), (0, u "plainElements"), (0, u "[I"), (2, u "markKinds"), (0, u "[B"), (5, u "supplementaryMarkKinds"), (0, u "Ljava/util/Map;"), (2, u "markDecompositions"), (2, u "collator"), (0, u "Ljava/text/RuleBasedCollator;"), (8, u "strength"), (0, u "I"), (19, u "contracted"), (0, u "Ljava/util/Set;"), (72, u "frenchSecondaries"), (0, u "Z"), (23, u "contractedPairs"), (6, u "markContractions"), (0, u "Ljava/util/List;"), (5, u "largestIgnorableSecondary"), (2, u "largestIgnorableTertiary"), (18, u "readsInParts"), (158, u "keyCharacters"), (0, u "([B)[C"), (20, u "PRIMARY"), (2, u "SECONDARY"), (1, u "TERTIARY"), (1, u "ALL_LEVELS"), (1, u "UNKNOWN"), (1, u "NOT_PLAIN"), (0, u "UNKNOWN_MARK"), (0, u "B"), (0, u "NOT_MARK"), (0, u "MARK"), (0, u "DECOMPOSED_MARK"), (1, u "RELATIONS"), (0, u "Ljava/lang/String;"), (0, u "RULE_WHITESPACE")] 77

def k2c0 : Code := { maxStack := 6, maxLocals := 3, code := prog_155_method_25_code, exceptionTable := #[], attributes := #[] }
def k2m0 : Method := { name := "keyCharacters", desc := "([B)[C", sig := { parameters := [(.array .byte)], returnType := some (.array .char) }, accessFlags := 8, code := some k2c0 }
/-- com/example/aschenputtel/aschenputtel/values/UcaWeights -/
def k2 : Class := { plain "com/example/aschenputtel/aschenputtel/values/UcaWeights" (some 0) with
  accessFlags := 32
  interfaces := #[]
  cf := some (fileOf pool2 11 #[] #[{ accessFlags := 8, nameIndex := 357, descriptorIndex := 358, attributes := #[] }] 32 2 #[] #[{ accessFlags := 24, nameIndex := 379, descriptorIndex := 43, attributes := #[] }, { accessFlags := 24, nameIndex := 382, descriptorIndex := 43, attributes := #[] }, { accessFlags := 24, nameIndex := 384, descriptorIndex := 43, attributes := #[] }, { accessFlags := 24, nameIndex := 386, descriptorIndex := 43, attributes := #[] }, { accessFlags := 26, nameIndex := 388, descriptorIndex := 43, attributes := #[] }, { accessFlags := 26, nameIndex := 390, descriptorIndex := 43, attributes := #[] }, { accessFlags := 26, nameIndex := 391, descriptorIndex := 392, attributes := #[] }, { accessFlags := 26, nameIndex := 393, descriptorIndex := 392, attributes := #[] }, { accessFlags := 26, nameIndex := 394, descriptorIndex := 392, attributes := #[] }, { accessFlags := 26, nameIndex := 395, descriptorIndex := 392, attributes := #[] }, { accessFlags := 26, nameIndex := 397, descriptorIndex := 398, attributes := #[] }, { accessFlags := 26, nameIndex := 399, descriptorIndex := 398, attributes := #[] }, { accessFlags := 18, nameIndex := 32, descriptorIndex := 33, attributes := #[] }, { accessFlags := 18, nameIndex := 42, descriptorIndex := 43, attributes := #[] }, { accessFlags := 18, nameIndex := 63, descriptorIndex := 64, attributes := #[] }, { accessFlags := 18, nameIndex := 162, descriptorIndex := 15, attributes := #[] }, { accessFlags := 18, nameIndex := 169, descriptorIndex := 170, attributes := #[] }, { accessFlags := 18, nameIndex := 137, descriptorIndex := 138, attributes := #[] }, { accessFlags := 18, nameIndex := 198, descriptorIndex := 138, attributes := #[] }, { accessFlags := 18, nameIndex := 176, descriptorIndex := 43, attributes := #[] }, { accessFlags := 18, nameIndex := 179, descriptorIndex := 43, attributes := #[] }, { accessFlags := 18, nameIndex := 14, descriptorIndex := 15, attributes := #[] }, { accessFlags := 18, nameIndex := 18, descriptorIndex := 19, attributes := #[] }, { accessFlags := 18, nameIndex := 25, descriptorIndex := 26, attributes := #[] }, { accessFlags := 18, nameIndex := 29, descriptorIndex := 26, attributes := #[] }])
  fields := #[{ name := "PRIMARY", type := .int, accessFlags := 24, slot := 0, constantValue := 0 }, { name := "SECONDARY", type := .int, accessFlags := 24, slot := 1, constantValue := 0 }, { name := "TERTIARY", type := .int, accessFlags := 24, slot := 2, constantValue := 0 }, { name := "ALL_LEVELS", type := .int, accessFlags := 24, slot := 3, constantValue := 0 }, { name := "UNKNOWN", type := .int, accessFlags := 26, slot := 4, constantValue := 0 }, { name := "NOT_PLAIN", type := .int, accessFlags := 26, slot := 5, constantValue := 0 }, { name := "UNKNOWN_MARK", type := .byte, accessFlags := 26, slot := 6, constantValue := 0 }, { name := "NOT_MARK", type := .byte, accessFlags := 26, slot := 7, constantValue := 0 }, { name := "MARK", type := .byte, accessFlags := 26, slot := 8, constantValue := 0 }, { name := "DECOMPOSED_MARK", type := .byte, accessFlags := 26, slot := 9, constantValue := 0 }, { name := "RELATIONS", type := (.object "java/lang/String"), accessFlags := 26, slot := 10, constantValue := 0 }, { name := "RULE_WHITESPACE", type := (.object "java/lang/String"), accessFlags := 26, slot := 11, constantValue := 0 }, { name := "collator", type := (.object "java/text/RuleBasedCollator"), accessFlags := 18, slot := 0, constantValue := 0 }, { name := "strength", type := .int, accessFlags := 18, slot := 1, constantValue := 0 }, { name := "contracted", type := (.object "java/util/Set"), accessFlags := 18, slot := 2, constantValue := 0 }, { name := "contractedPairs", type := (.array .int), accessFlags := 18, slot := 3, constantValue := 0 }, { name := "markContractions", type := (.object "java/util/List"), accessFlags := 18, slot := 4, constantValue := 0 }, { name := "frenchSecondaries", type := .boolean, accessFlags := 18, slot := 5, constantValue := 0 }, { name := "readsInParts", type := .boolean, accessFlags := 18, slot := 6, constantValue := 0 }, { name := "largestIgnorableSecondary", type := .int, accessFlags := 18, slot := 7, constantValue := 0 }, { name := "largestIgnorableTertiary", type := .int, accessFlags := 18, slot := 8, constantValue := 0 }, { name := "plainElements", type := (.array .int), accessFlags := 18, slot := 9, constantValue := 0 }, { name := "markKinds", type := (.array .byte), accessFlags := 18, slot := 10, constantValue := 0 }, { name := "supplementaryMarkKinds", type := (.object "java/util/Map"), accessFlags := 18, slot := 11, constantValue := 0 }, { name := "markDecompositions", type := (.object "java/util/Map"), accessFlags := 18, slot := 12, constantValue := 0 }]
  methods := #[k2m0]
  instanceTypes := #[(.object "java/text/RuleBasedCollator"), .int, (.object "java/util/Set"), (.array .int), (.object "java/util/List"), .boolean, .boolean, .int, .int, (.array .int), (.array .byte), (.object "java/util/Map"), (.object "java/util/Map")]
  staticTypes := #[.int, .int, .int, .int, .int, .int, .byte, .byte, .byte, .byte, (.object "java/lang/String"), (.object "java/lang/String")]
  resolved := Array.replicate 477 none
  statics := none }

def pool3 : Array CpInfo := pool [(1, u "java/lang/Cloneable"), (0, .class_ 1), (0, u "java/lang/Object"), (0, .class_ 3)] 3

/-- java/lang/Cloneable -/
def k3 : Class := { plain "java/lang/Cloneable" (some 0) with
  accessFlags := 1537
  interfaces := #[]
  cf := some (fileOf pool3 2 #[] #[] 1537 4 #[] #[])
  fields := #[]
  methods := #[]
  instanceTypes := #[]
  staticTypes := #[]
  resolved := Array.replicate 8 none
  statics := none }

def pool4 : Array CpInfo := pool [(1, u "java/io/Serializable"), (0, .class_ 1), (0, u "java/lang/Object"), (0, .class_ 3)] 3

/-- java/io/Serializable -/
def k4 : Class := { plain "java/io/Serializable" (some 0) with
  accessFlags := 1537
  interfaces := #[]
  cf := some (fileOf pool4 2 #[] #[] 1537 4 #[] #[])
  fields := #[]
  methods := #[]
  instanceTypes := #[]
  staticTypes := #[]
  resolved := Array.replicate 8 none
  statics := none }

/-- the primitive byte -/
def k5 : Class := { plain "byte" none with kind := .primitive 'B', accessFlags := 0x411 }
/-- [B -/
def k6 : Class := { plain "[B" (some 0) with kind := .array 5 .byte, interfaces := #[3, 4], accessFlags := 1041 }

/-- the primitive char -/
def k7 : Class := { plain "char" none with kind := .primitive 'C', accessFlags := 0x411 }
/-- [C -/
def k8 : Class := { plain "[C" (some 0) with kind := .array 7 .char, interfaces := #[3, 4], accessFlags := 1041 }

/-- the primitive int -/
def k9 : Class := { plain "int" none with kind := .primitive 'I', accessFlags := 0x411 }
/-- [I -/
def k10 : Class := { plain "[I" (some 0) with kind := .array 9 .int, interfaces := #[3, 4], accessFlags := 1041 }

def heap : Heap := #[]
def classes : Array Class := #[k0, k1, k2, k3, k4, k5, k6, k7, k8, k9, k10]
def interned : List (Array UInt16 × Addr) := []
def slotsUsed : Nat := 0
def theMethod : MethodId := ⟨1, 1⟩
def args0 : Array Value := #[.int 5, .int 6, .int 7, .int 8, .int 9]
def aboutOver (below : List Frame) : State where
  vm := { classes := classes, interned := interned.toArray }
  heap := heap
  slotsUsed := slotsUsed
  threads := #[{ frames := .invoking theMethod args0 :: below }]
def below0 : List Frame := [.native { method := ⟨0, 0⟩, args := #[] }]
def about1 : State := aboutOver below0
def p0 : Program := .bare "" "" ""
def e0 : Env := launch0.env 0 0 0
theorem w_frames : about1.frames = Frame.invoking theMethod args0 :: below0 := rfl
set_option maxRecDepth 65536 in
theorem w_args : argsFit about1.vm theMethod args0 = true := by decide +kernel
set_option maxRecDepth 65536 in
theorem w_heap : heapFits about1 = true := by decide +kernel
set_option maxRecDepth 65536 in
theorem w_runnable : about1.curStatus? = some .runnable := by decide +kernel
set_option maxRecDepth 65536 in
theorem w_alone : about1.alone = true := by decide +kernel
set_option maxRecDepth 65536 in
theorem w_named : about1.methodNamed? x = some theMethod := by decide +kernel
set_option maxRecDepth 65536 in
theorem w_hears : about1.hears theMethod below0 = true := by decide +kernel
set_option maxRecDepth 65536 in
theorem w_ripe : about1.ripe theMethod args0 below0 = true := by decide +kernel
theorem w_running : about1.status = .running := rfl
set_option maxRecDepth 65536 in
theorem w_room : about1.hasRoom e0.platform room_1 = true :=
  launch0.hasRoom_least _ room_1 (by decide +kernel) (by decide +kernel) (by decide +kernel) (by decide +kernel) (by decide +kernel) (by decide +kernel)
theorem allAtoms_all (ts : List Jvm.Cond) (a : Array Jvm.Value) (st : Jvm.State) : (allAtoms ts).before a st = ts.all (fun c => c.before a st) := by
  induction ts with
  | nil => rfl
  | cons c t ih =>
    show (Jvm.Cond.and c (allAtoms t)).before a st = _
    rw [Jvm.Cond.before_and, ih, List.all_cons]
def words1 : List Jvm.Cond := Jvm.Cond.code x code maxLocals ret :: tables_1
/-- a 'code' word, met by the world's own term for the bytes: nothing is compared byte by byte -/
theorem code_word {y : MethodName} {bytes : ByteArray} {mx : Nat} {rt : Option FieldType} {a : Array Value} {s : State} {m : MethodId} {meth : Method} {c : Code} (h1 : s.methodNamed? y = some m) (h2 : s.vm.method? m = some meth) (h3 : meth.code = some c) (h4 : c.code = bytes)
    (h5 : (c.maxLocals == mx && c.exceptionTable.isEmpty && decide (c.maxStack ≤ mostOperands) && decide (meth.sig.returnType = rt) && !meth.locks && decide (parseMethodDescriptor y.desc = some meth.sig)) = true) : (Jvm.Cond.code y bytes mx rt).before a s = true := by
  simp only [Bool.and_eq_true, beq_iff_eq, Bool.not_eq_true', decide_eq_true_eq] at h5
  obtain ⟨⟨⟨⟨⟨g1, g2⟩, g3⟩, g4⟩, g5⟩, g6⟩ := h5
  simp [Cond.before, Cond.holds, Cond.value, h1, h2, h3, h4, g1, g2, g3, g4, g5, g6]
def isCode : Jvm.Cond → Bool
  | .code _ _ _ _ => true
  | _ => false
theorem all_split {L : List Jvm.Cond} {P : Jvm.Cond → Bool} (h1 : L.all (fun c => isCode c || P c) = true) (h2 : ∀ c ∈ L.filter isCode, P c = true) : L.all P = true := by
  refine List.all_eq_true.mpr fun c hc => ?_
  have h := List.all_eq_true.mp h1 c hc
  rcases Bool.eq_false_or_eq_true (isCode c) with hi | hi
  · exact h2 c (List.mem_filter.mpr ⟨hc, hi⟩)
  · simpa [hi] using h
set_option maxRecDepth 65536 in
theorem w_c0 : (Jvm.Cond.code x code maxLocals ret).before args0 about1 = true := code_word (m := ⟨1, 1⟩) (meth := k1m1) (c := k1c1) (by decide +kernel) rfl rfl rfl (by decide +kernel)
set_option maxRecDepth 65536 in
theorem w_c1 : (Jvm.Cond.code ({ cls := "com/example/aschenputtel/aschenputtel/values/UcaWeights", name := "keyCharacters", desc := "([B)[C" } : Jvm.MethodName) prog_155_method_25_code (3 : Nat) (Option.some (Jvm.ClassFile.FieldType.array Jvm.ClassFile.FieldType.char))).before args0 about1 = true := code_word (m := ⟨2, 0⟩) (meth := k2m0) (c := k2c0) (by decide +kernel) rfl rfl rfl (by decide +kernel)
def codes1 : List Jvm.Cond := [Jvm.Cond.code x code maxLocals ret, Jvm.Cond.code ({ cls := "com/example/aschenputtel/aschenputtel/values/UcaWeights", name := "keyCharacters", desc := "([B)[C" } : Jvm.MethodName) prog_155_method_25_code (3 : Nat) (Option.some (Jvm.ClassFile.FieldType.array Jvm.ClassFile.FieldType.char))]
set_option maxRecDepth 65536 in
theorem codes_eq : words1.filter isCode = codes1 := rfl
theorem w_codes : ∀ c ∈ words1.filter isCode, c.before args0 about1 = true := by
  rw [codes_eq]
  intro c hc
  simp only [codes1, List.mem_cons, List.not_mem_nil, or_false] at hc
  rcases hc with rfl | rfl
  · exact w_c0
  · exact w_c1
set_option maxRecDepth 65536 in
theorem w_t1 : words1.all (fun c => isCode c || c.before args0 about1) = true := by decide +kernel
theorem w_tables : (allAtoms (Jvm.Cond.code x code maxLocals ret :: tables_1)).before args0 about1 = true := by
  rw [allAtoms_all]
  show words1.all (fun c => c.before args0 about1) = true
  refine all_split ?_ w_codes
  rw [w_t1]
set_option maxRecDepth 65536 in
theorem w_case : (Jvm.Cond.and given_1 narrow_1).before args0 about1 = true := by decide +kernel
theorem w_applies : (headSpec (Jvm.Cond.code x code maxLocals ret :: tables_1) room_1).applies x e0.platform about1 = true :=
  (Spec.applies_iff w_frames).mpr ⟨w_running, w_runnable, w_alone, w_named, w_hears, w_ripe, w_room, w_tables⟩
theorem atStart : AtStart classFile x code maxLocals ret World_1 tables_1 room_1 Calls_1 rest_1 Pre_1 launch0 p0 e0 about1 theMethod args0 below0 :=
  ⟨lists_1, trivial, launch0.admits_env _ _ _, launch0.least_env, fairChoices_fair.cas, fairChoices_fair.clock, w_frames, w_args, w_heap, w_applies, trivial, trivial, w_case⟩
end start1
theorem witness_1 : WitnessClaimed_1 := ⟨start1.p0, start1.e0, start1.about1, start1.theMethod, start1.args0, start1.below0, start1.atStart⟩
end Jvm.Pilot.@@N@@
