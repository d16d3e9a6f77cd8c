import JvmDerived
import JvmDerived.Pilot.@@N@@Statement
import JvmDerived.Pilot.@@N@@Code
set_option linter.unusedVariables false
set_option linter.unusedSimpArgs false
namespace Jvm.RoadKit
open Sem ClassFile Op Lib Jvm.Stand Jvm.Free Jvm.LawKit
section New
variable {p : Program} {l : Launch} {e : Env} {R : Room} {s : State} {m : MethodId} {args : Array Value} {below : List Frame} {meth : Method} {c : Code} {T : State} {locs : List Loc} {cells slots : Nat}
theorem retI (X : Stand p l e R s m args below meth c T locs cells slots) (hx : p.tables.exec = Jvm.exec) {pc : Nat} {Ls : Array Slot} {z : Int32} {rest : List Value} (hret : meth.sig.returnType = some .int) (hd : decode c.code pc = .ok (.ireturn, 1)) {fs : List Frame}
    (hl : ∀ (f : JFrame) (acts : List Action), f.method = m → f.locked = none → f.entered = [] → (doReturn e (T.setTop f) acts (some (.int z))).1 = T.setFrames fs) : Steps p.tables e below (T.setTop (mkF m pc Ls (.int z :: rest))) (T.setFrames fs) := by
  have hm' : T.vm.method? m = some meth := X.method'
  have hn : narrow .int (.int z) = .int z := rfl
  show Steps p.tables e below (T.setTop { method := m, pc := pc, locals := Ls, stack := _ :: rest, locked := none }) _
  jvm_step X.here [X.here.top, hx, hd, hm', hret, hn]
  first | (intro acts; rw [hl _ acts rfl rfl rfl]) | rw [hl _ _ rfl rfl rfl]
  exact Steps.refl _
end New
end Jvm.RoadKit
namespace Jvm.Pilot.@@N@@
open Jvm Jvm.ClassFile Sem Op Lib Jvm.Free Jvm.Stand Jvm.LawKit Jvm.RoadKit Bundle Jvm.Pilot.@@N@@.Jvm.D
theorem d1_0 : decode prog_12_method_1_code 0 = .ok (.aload_n 0, 1) := by decide +kernel
theorem d1_1 : decode prog_12_method_1_code 1 = .ok (.invokespecial 1, 3) := by decide +kernel
theorem d1_4 : decode prog_12_method_1_code 4 = .ok (.aload_n 0, 1) := by decide +kernel
theorem d1_5 : decode prog_12_method_1_code 5 = .ok (.new 7, 3) := by decide +kernel
theorem d1_8 : decode prog_12_method_1_code 8 = .ok (.dup, 1) := by decide +kernel
theorem d1_9 : decode prog_12_method_1_code 9 = .ok (.invokespecial 9, 3) := by decide +kernel
theorem d1_12 : decode prog_12_method_1_code 12 = .ok (.putfield 10, 3) := by decide +kernel
theorem d1_15 : decode prog_12_method_1_code 15 = .ok (.aload_n 0, 1) := by decide +kernel
theorem d1_16 : decode prog_12_method_1_code 16 = .ok (.new 7, 3) := by decide +kernel
theorem d1_19 : decode prog_12_method_1_code 19 = .ok (.dup, 1) := by decide +kernel
theorem d1_20 : decode prog_12_method_1_code 20 = .ok (.invokespecial 9, 3) := by decide +kernel
theorem d1_23 : decode prog_12_method_1_code 23 = .ok (.putfield 16, 3) := by decide +kernel
theorem d1_26 : decode prog_12_method_1_code 26 = .ok (.aload_n 0, 1) := by decide +kernel
theorem d1_27 : decode prog_12_method_1_code 27 = .ok (.new 19, 3) := by decide +kernel
theorem d1_30 : decode prog_12_method_1_code 30 = .ok (.dup, 1) := by decide +kernel
theorem d1_31 : decode prog_12_method_1_code 31 = .ok (.invokespecial 21, 3) := by decide +kernel
theorem d1_34 : decode prog_12_method_1_code 34 = .ok (.putfield 22, 3) := by decide +kernel
theorem d1_37 : decode prog_12_method_1_code 37 = .ok (.return_, 1) := by decide +kernel
theorem d3_0 : decode jdk_2581_method_3_code 0 = .ok (.aload_n 0, 1) := by decide +kernel
theorem d3_1 : decode jdk_2581_method_3_code 1 = .ok (.invokespecial 7, 3) := by decide +kernel
theorem d3_4 : decode jdk_2581_method_3_code 4 = .ok (.aload_n 0, 1) := by decide +kernel
theorem d3_5 : decode jdk_2581_method_3_code 5 = .ok (.bipush 32, 2) := by decide +kernel
theorem d3_7 : decode jdk_2581_method_3_code 7 = .ok (.invokevirtual 13, 3) := by decide +kernel
theorem d3_10 : decode jdk_2581_method_3_code 10 = .ok (.return_, 1) := by decide +kernel
theorem d4_0 : decode jdk_71_method_1_code 0 = .ok (.aload_n 0, 1) := by decide +kernel
theorem d4_1 : decode jdk_71_method_1_code 1 = .ok (.invokespecial 1, 3) := by decide +kernel
theorem d4_4 : decode jdk_71_method_1_code 4 = .ok (.return_, 1) := by decide +kernel
theorem d5_0 : decode jdk_2581_method_6_code 0 = .ok (.aload_n 0, 1) := by decide +kernel
theorem d5_1 : decode jdk_2581_method_6_code 1 = .ok (.iconst 2, 1) := by decide +kernel
theorem d5_2 : decode jdk_2581_method_6_code 2 = .ok (.iload_n 1, 1) := by decide +kernel
theorem d5_3 : decode jdk_2581_method_6_code 3 = .ok (.imul, 1) := by decide +kernel
theorem d5_4 : decode jdk_2581_method_6_code 4 = .ok (.anewarray 49, 3) := by decide +kernel
theorem d5_7 : decode jdk_2581_method_6_code 7 = .ok (.putfield 51, 3) := by decide +kernel
theorem d5_10 : decode jdk_2581_method_6_code 10 = .ok (.return_, 1) := by decide +kernel
theorem d6_0 : decode jdk_69_method_7_code 0 = .ok (.aload_n 0, 1) := by decide +kernel
theorem d6_1 : decode jdk_69_method_7_code 1 = .ok (.invokespecial 43, 3) := by decide +kernel
theorem d6_4 : decode jdk_69_method_7_code 4 = .ok (.aload_n 0, 1) := by decide +kernel
theorem d6_5 : decode jdk_69_method_7_code 5 = .ok (.ldc 92, 2) := by decide +kernel
theorem d6_7 : decode jdk_69_method_7_code 7 = .ok (.putfield 81, 3) := by decide +kernel
theorem d6_10 : decode jdk_69_method_7_code 10 = .ok (.return_, 1) := by decide +kernel
theorem d7_0 : decode prog_12_method_6_code 0 = .ok (.aload_n 0, 1) := by decide +kernel
theorem d7_1 : decode prog_12_method_6_code 1 = .ok (.getfield 41, 3) := by decide +kernel
theorem d7_4 : decode prog_12_method_6_code 4 = .ok (.lconst 0, 1) := by decide +kernel
theorem d7_5 : decode prog_12_method_6_code 5 = .ok (.lcmp, 1) := by decide +kernel
theorem d7_6 : decode prog_12_method_6_code 6 = .ok (.ifCond .le 7, 3) := by decide +kernel
theorem d7_9 : decode prog_12_method_6_code 9 = .ok (.iconst 1, 1) := by decide +kernel
theorem d7_10 : decode prog_12_method_6_code 10 = .ok (.goto 4, 3) := by decide +kernel
theorem d7_13 : decode prog_12_method_6_code 13 = .ok (.iconst 0, 1) := by decide +kernel
theorem d7_14 : decode prog_12_method_6_code 14 = .ok (.ireturn, 1) := by decide +kernel
theorem d8_0 : decode method_2_code 0 = .ok (.iload_n 1, 1) := by decide +kernel
theorem d8_1 : decode method_2_code 1 = .ok (.iconst 3, 1) := by decide +kernel
theorem d8_2 : decode method_2_code 2 = .ok (.iand, 1) := by decide +kernel
theorem d8_3 : decode method_2_code 3 = .ok (.istore_n 3, 1) := by decide +kernel
theorem d8_4 : decode method_2_code 4 = .ok (.iload_n 3, 1) := by decide +kernel
theorem d8_5 : decode method_2_code 5 = .ok (.iconst 1, 1) := by decide +kernel
theorem d8_6 : decode method_2_code 6 = .ok (.if_icmp .ne 11, 3) := by decide +kernel
theorem d8_9 : decode method_2_code 9 = .ok (.aload_n 0, 1) := by decide +kernel
theorem d8_10 : decode method_2_code 10 = .ok (.invokevirtual 7, 3) := by decide +kernel
theorem d8_13 : decode method_2_code 13 = .ok (.iload_n 2, 1) := by decide +kernel
theorem d8_14 : decode method_2_code 14 = .ok (.iconst 1, 1) := by decide +kernel
theorem d8_15 : decode method_2_code 15 = .ok (.iadd, 1) := by decide +kernel
theorem d8_16 : decode method_2_code 16 = .ok (.ireturn, 1) := by decide +kernel
theorem d8_17 : decode method_2_code 17 = .ok (.iload_n 3, 1) := by decide +kernel
theorem d8_18 : decode method_2_code 18 = .ok (.iconst 2, 1) := by decide +kernel
theorem d8_19 : decode method_2_code 19 = .ok (.if_icmp .ne 11, 3) := by decide +kernel
theorem d8_22 : decode method_2_code 22 = .ok (.aload_n 0, 1) := by decide +kernel
theorem d8_23 : decode method_2_code 23 = .ok (.invokevirtual 12, 3) := by decide +kernel
theorem d8_26 : decode method_2_code 26 = .ok (.iload_n 2, 1) := by decide +kernel
theorem d8_27 : decode method_2_code 27 = .ok (.iconst 1, 1) := by decide +kernel
theorem d8_28 : decode method_2_code 28 = .ok (.isub, 1) := by decide +kernel
theorem d8_29 : decode method_2_code 29 = .ok (.ireturn, 1) := by decide +kernel
theorem d8_30 : decode method_2_code 30 = .ok (.iload_n 2, 1) := by decide +kernel
theorem d8_31 : decode method_2_code 31 = .ok (.ireturn, 1) := by decide +kernel
theorem d9_0 : decode prog_12_method_5_code 0 = .ok (.aload_n 0, 1) := by decide +kernel
theorem d9_1 : decode prog_12_method_5_code 1 = .ok (.dup, 1) := by decide +kernel
theorem d9_2 : decode prog_12_method_5_code 2 = .ok (.getfield 41, 3) := by decide +kernel
theorem d9_5 : decode prog_12_method_5_code 5 = .ok (.lconst 1, 1) := by decide +kernel
theorem d9_6 : decode prog_12_method_5_code 6 = .ok (.lsub, 1) := by decide +kernel
theorem d9_7 : decode prog_12_method_5_code 7 = .ok (.putfield 41, 3) := by decide +kernel
theorem d9_10 : decode prog_12_method_5_code 10 = .ok (.return_, 1) := by decide +kernel
theorem d10_0 : decode prog_12_method_4_code 0 = .ok (.aload_n 0, 1) := by decide +kernel
theorem d10_1 : decode prog_12_method_4_code 1 = .ok (.dup, 1) := by decide +kernel
theorem d10_2 : decode prog_12_method_4_code 2 = .ok (.getfield 41, 3) := by decide +kernel
theorem d10_5 : decode prog_12_method_4_code 5 = .ok (.lconst 1, 1) := by decide +kernel
theorem d10_6 : decode prog_12_method_4_code 6 = .ok (.ladd, 1) := by decide +kernel
theorem d10_7 : decode prog_12_method_4_code 7 = .ok (.putfield 41, 3) := by decide +kernel
theorem d10_10 : decode prog_12_method_4_code 10 = .ok (.return_, 1) := by decide +kernel
theorem pn_0 : plainName "java/util/AbstractMap" = true := by first | (simp [plainName, overriddenIn]; done) | decide +kernel
theorem pn_1 : plainName "java/util/IdentityHashMap" = true := by first | (simp [plainName, overriddenIn]; done) | decide +kernel
theorem pn_2 : plainName "java/util/HashMap" = true := by first | (simp [plainName, overriddenIn]; done) | decide +kernel
theorem pn_3 : plainName "com/example/fetchwright/fetchwright/service/Provenance" = true := by first | (simp [plainName, overriddenIn]; done) | decide +kernel
theorem pn_4 : plainName "com/example/fetchwright/fetchwright/service/ProvenanceAwaitsReferencesPinLaw" = true := by first | (simp [plainName, overriddenIn]; done) | decide +kernel
theorem pd_0 : parseMethodDescriptor "()V" = some ⟨[], none⟩ := by decide +kernel
theorem pd_1 : parseMethodDescriptor "(I)V" = some ⟨[.int], none⟩ := by decide +kernel
theorem pd_2 : parseMethodDescriptor "()Z" = some ⟨[], some .boolean⟩ := by decide +kernel
theorem pd_3 : parseMethodDescriptor "(Lcom/example/fetchwright/fetchwright/service/Provenance;II)I" = some ⟨[(.object "com/example/fetchwright/fetchwright/service/Provenance"), .int, .int], some .int⟩ := by decide +kernel
theorem own_nar1 {x : Int32} (h : x = 1) : nar .boolean x = 1 := by subst h; rfl
theorem own_n0 : nar .boolean (0 : Int32) = 0 := rfl
theorem own_n1 : nar .boolean (1 : Int32) = 1 := rfl
def Q4 (Z : State) (r0 : Addr) (h0 : Heap) (n0 : Nat) (v : Option Value) (h : Heap) (L : List Loc) : Prop := v = none ∧ Fr n0 L ∧ h = h0
theorem ef_4 (m : MethodId) (x0 : Addr) : entryFrame m #[(.ref x0)] 1 = mkF m 0 #[.val (.ref x0)] [] := by first | (simp [entryFrame, mkF, argsToLocals, Value.category]; done) | rfl
set_option maxRecDepth 65536 in
set_option maxHeartbeats 40000000 in
theorem rm4 (l : Launch) (Z : State) (a0 : Array Value) (hw : ∀ d ∈ tables_1, d.before a0 Z = true) (ws : List Jvm.Cond) (r0 : Addr) (h0 : Heap) (n0 : Nat) (Z0 : n0 ≤ h0.size) :
    MetFree l (⟨"java/util/AbstractMap", "<init>", "()V"⟩ : MethodName) (head1 (Jvm.Cond.code (⟨"java/util/AbstractMap", "<init>", "()V"⟩ : MethodName) jdk_71_method_1_code 1 none :: ws) ({ frames := 1, cells := 0, slots := 0, locals := 12 } : Room)) (fun a U => a = #[(.ref r0)] ∧ Z.Warmed39 U.vm ∧ U.heap = h0) (fun _ _ _ _ _ => True) (fun _ U o U' => ∃ v L, o = .returned v ∧ Q4 Z r0 h0 n0 v U'.heap L ∧ FrameEnd U o U' L ({ frames := 1, cells := 0, slots := 0, locals := 12 } : Room).cells ({ frames := 1, cells := 0, slots := 0, locals := 12 } : Room).slots) := by
  refine MetFree.of_bodySF (plainFor_of_name pn_0) hisR ?_
  intro p e s m args below meth c s₁ Bd hml0 hP hK
  obtain ⟨rfl, hZ, hh⟩ := hP
  have hx := Bd.exec
  have hby := Bd.bytes
  have hml : c.maxLocals = 1 := hml0
  have hown : s.vm.findClass "java/util/AbstractMap" = some m.cls := findClass_of_methodNamed Bd.named
  have hnm := (name_of_methodNamed Bd.named Bd.method).1
  have X0 : Stand p l e ({ frames := 1, cells := 0, slots := 0, locals := 12 } : Room) s m #[(.ref r0)] below meth c s₁ [] 0 0 := Stand.of_body Bd
  have e0 : s₁.heap = h0 := by rw [← hh, Bd.state]; rfl
  have N0 := Fr.nil n0
  have pre0 : ∀ t, Steps p.tables e below (s₁.setTop (mkF m 0 #[.val (.ref r0)] [])) t → Steps p.tables e below (s₁.setTop (entryFrame m #[(.ref r0)] 1)) t := fun t k => castTop (ef_4 m r0) k
  obtain ⟨T1, X1, e1, st1⟩ := initO X0 hx hZ hown (hw _ (List.mem_of_getElem? (i := 21) rfl)) (hw _ (List.mem_of_getElem? (i := 7) rfl)) (hw _ (List.mem_of_getElem? (i := 8) rfl)) e0 (g := (mkF m 1 #[.val (.ref r0)] [(.ref r0)])) rfl (by rw [hml]; rfl) rfl (hb hby d4_1) (by decide) (W := 0) (by show 2 * 0 + _ ≤ _; exact Nat.le_of_eq rfl) (by decide)
  have pre2 : ∀ t, Steps p.tables e below (T1.setTop (mkF m 4 #[.val (.ref r0)] [])) t → Steps p.tables e below (s₁.setTop (entryFrame m #[(.ref r0)] 1)) t := by
    intro t k
    refine pre0 _ ?_
    show Steps p.tables e below (s₁.setTop (mkF m 0 #[.val (.ref r0)] [])) _
    refine XS.aloadN X0.here hx rfl (hb hby d4_0) rfl rfl ?_
    show Steps p.tables e below (s₁.setTop (mkF m 1 #[.val (.ref r0)] [(.ref r0)])) _
    refine st1 _ ?_
    exact k
  obtain ⟨fs, hr, hrun, hended, hW, hsame⟩ := X1.leave (v := none) (fun _ => rfl)
  refine ⟨_, _, pre2 _ ?_, hrun, hended, _, _, rfl, ?_, ⟨_, rfl⟩, hW, hsame.mono (by decide) (by decide)⟩
  · show Steps p.tables e below (T1.setTop (mkF m 4 #[.val (.ref r0)] [])) _
    exact X1.returnOut hx Bd.returns (hb hby d4_4) hr
  · show Q4 Z r0 h0 n0 _ T1.heap _
    rw [e1]
    exact ⟨rfl, N0, rfl⟩
def Q5 (Z : State) (r0 : Addr) (u_table_r0 : Value) (h0 : Heap) (n0 : Nat) (v : Option Value) (h : Heap) (L : List Loc) : Prop := ∃ (b1 : Addr), ∃ (k1 : ClassId), v = none ∧ Fr n0 L ∧ Keep h0 h [r0] ∧ h0.size ≤ b1 ∧ Arv Z h b1 k1 (.object "java/lang/Object") (64 : Int32) [] .null ∧ Exa Z h r0 "java/util/IdentityHashMap" ∧ Fld Z h r0 "java/util/IdentityHashMap" "table" "[Ljava/lang/Object;" (.ref b1) ∧ Ovr Z k1 "java/lang/Object"
theorem ef_5 (m : MethodId) (x0 : Addr) : entryFrame m #[(.ref x0), (.int (32 : Int32))] 2 = mkF m 0 #[.val (.ref x0), .val (.int (32 : Int32))] [] := by first | (simp [entryFrame, mkF, argsToLocals, Value.category]; done) | rfl
set_option maxRecDepth 65536 in
set_option maxHeartbeats 40000000 in
theorem rm5 (l : Launch) (Z : State) (a0 : Array Value) (hw : ∀ d ∈ tables_1, d.before a0 Z = true) (ws : List Jvm.Cond) (r0 : Addr) (u_table_r0 : Value) (h0 : Heap) (n0 : Nat) (Z0 : n0 ≤ h0.size) (E_r0 : Exa Z h0 r0 "java/util/IdentityHashMap") (F_table_r0 : Fld Z h0 r0 "java/util/IdentityHashMap" "table" "[Ljava/lang/Object;" u_table_r0) (g_r0 : n0 ≤ r0) :
    MetFree l (⟨"java/util/IdentityHashMap", "init", "(I)V"⟩ : MethodName) (head1 (Jvm.Cond.code (⟨"java/util/IdentityHashMap", "init", "(I)V"⟩ : MethodName) jdk_2581_method_6_code 2 none :: ws) ({ frames := 0, cells := 1, slots := 64, locals := 0 } : Room)) (fun a U => a = #[(.ref r0), (.int (32 : Int32))] ∧ Z.Warmed39 U.vm ∧ U.heap = h0) (fun _ _ _ _ _ => True) (fun _ U o U' => ∃ v L, o = .returned v ∧ Q5 Z r0 u_table_r0 h0 n0 v U'.heap L ∧ FrameEnd U o U' L ({ frames := 0, cells := 1, slots := 64, locals := 0 } : Room).cells ({ frames := 0, cells := 1, slots := 64, locals := 0 } : Room).slots) := by
  refine MetFree.of_bodySF (plainFor_of_name pn_1) hisR ?_
  intro p e s m args below meth c s₁ Bd hml0 hP hK
  obtain ⟨rfl, hZ, hh⟩ := hP
  have hx := Bd.exec
  have hby := Bd.bytes
  have hml : c.maxLocals = 2 := hml0
  have hown : s.vm.findClass "java/util/IdentityHashMap" = some m.cls := findClass_of_methodNamed Bd.named
  have hnm := (name_of_methodNamed Bd.named Bd.method).1
  have X0 : Stand p l e ({ frames := 0, cells := 1, slots := 64, locals := 0 } : Room) s m #[(.ref r0), (.int (32 : Int32))] below meth c s₁ [] 0 0 := Stand.of_body Bd
  have e0 : s₁.heap = h0 := by rw [← hh, Bd.state]; rfl
  have N0 := Fr.nil n0
  have pre0 : ∀ t, Steps p.tables e below (s₁.setTop (mkF m 0 #[.val (.ref r0), .val (.int (32 : Int32))] [])) t → Steps p.tables e below (s₁.setTop (entryFrame m #[(.ref r0), (.int (32 : Int32))] 2)) t := fun t k => castTop (ef_5 m r0) k
  obtain ⟨T1, h1, k1, X1, e1, E1, A1, O1, st1⟩ := newR X0 hx hZ hown (hw _ (List.mem_of_getElem? (i := 27) rfl)) (hw _ (List.mem_of_getElem? (i := 28) rfl)) e0 (g := (mkF m 4 #[.val (.ref r0), .val (.int (32 : Int32))] [(.int (64 : Int32)), (.ref r0)])) rfl (hb hby d5_4) rfl (by decide) (cap := 64) (by decide) (by decide) (by decide) (by decide)
  obtain ⟨b1, g1⟩ : ∃ z, z = h0.size := ⟨_, rfl⟩
  rw [← g1] at A1 st1
  have sz_b1 : h0.size ≤ b1 := Nat.le_trans (Keep.refl h0 [r0]).1 (Nat.le_of_eq g1.symm)
  have K2 : Keep h0 h1 [r0] := (Keep.refl h0 [r0]).ext E1
  have V1 : Arv Z h1 b1 k1 (.object "java/lang/Object") (64 : Int32) [] .null := Arv.new A1 (by decide)
  have f3 := (E_r0.ext E1)
  have f4 := (F_table_r0.ext E1)
  obtain ⟨T5, h5, X5, e5, W5, st5⟩ := putF X1 hx hZ hown (host := "") (Or.inl (hw _ (List.mem_of_getElem? (i := 29) rfl))) Via.refl e1 f4 f3 (Or.inl (hw _ (List.mem_of_getElem? (i := 30) rfl))) (hw _ (List.mem_of_getElem? (i := 10) rfl)) (ty := (.array (.object "java/lang/Object"))) (by decide) rfl rfl (g := (mkF m 7 #[.val (.ref r0), .val (.int (32 : Int32))] [(.ref b1), (.ref r0)])) rfl rfl (hb hby d5_7)
  have N5 := Fr.snoc X5 N0 g_r0
  have K6 : Keep h0 h5 [r0] := K2.wr W5 (Or.inl (List.mem_of_getElem? (i := 0) rfl))
  have F5 := f4.same W5
  have pre7 : ∀ t, Steps p.tables e below (T5.setTop (mkF m 10 #[.val (.ref r0), .val (.int (32 : Int32))] [])) t → Steps p.tables e below (s₁.setTop (entryFrame m #[(.ref r0), (.int (32 : Int32))] 2)) t := by
    intro t k
    refine pre0 _ ?_
    show Steps p.tables e below (s₁.setTop (mkF m 0 #[.val (.ref r0), .val (.int (32 : Int32))] [])) _
    refine XS.aloadN X0.here hx rfl (hb hby d5_0) rfl rfl ?_
    show Steps p.tables e below (s₁.setTop (mkF m 1 #[.val (.ref r0), .val (.int (32 : Int32))] [(.ref r0)])) _
    refine XS.iconst X0.here hx rfl (hb hby d5_1) ?_
    show Steps p.tables e below (s₁.setTop (mkF m 2 #[.val (.ref r0), .val (.int (32 : Int32))] [(.int (2 : Int32)), (.ref r0)])) _
    refine XS.iloadN X0.here hx rfl (hb hby d5_2) rfl ?_
    show Steps p.tables e below (s₁.setTop (mkF m 3 #[.val (.ref r0), .val (.int (32 : Int32))] [(.int (32 : Int32)), (.int (2 : Int32)), (.ref r0)])) _
    refine XS.imul X0.here hx rfl (hb hby d5_3) rfl ?_
    show Steps p.tables e below (s₁.setTop (mkF m 4 #[.val (.ref r0), .val (.int (32 : Int32))] [(.int (64 : Int32)), (.ref r0)])) _
    refine st1 _ ?_
    show Steps p.tables e below (T1.setTop (mkF m 7 #[.val (.ref r0), .val (.int (32 : Int32))] [(.ref b1), (.ref r0)])) _
    refine st5 _ ?_
    exact k
  have f8 := (V1.other W5 (Ne.symm (Nat.ne_of_lt (Nat.lt_of_lt_of_le E_r0.lt (Nat.le_trans (Nat.le_refl _) (Nat.le_of_eq g1.symm))))))
  have f9 := (f3.wr W5)
  obtain ⟨fs, hr, hrun, hended, hW, hsame⟩ := X5.leave (v := none) (fun _ => rfl)
  refine ⟨_, _, pre7 _ ?_, hrun, hended, _, _, rfl, ?_, ⟨_, rfl⟩, hW, hsame.mono (by decide) (by decide)⟩
  · show Steps p.tables e below (T5.setTop (mkF m 10 #[.val (.ref r0), .val (.int (32 : Int32))] [])) _
    exact X5.returnOut hx Bd.returns (hb hby d5_10) hr
  · show Q5 Z r0 u_table_r0 h0 n0 _ T5.heap _
    rw [e5]
    exact ⟨b1, k1, rfl, N5, K6, sz_b1, f8, f9, F5, O1⟩
def Q3 (Z : State) (r0 : Addr) (u_table_r0 : Value) (h0 : Heap) (n0 : Nat) (v : Option Value) (h : Heap) (L : List Loc) : Prop := ∃ (b2_0 : Addr), ∃ (k2_1 : ClassId), v = none ∧ Fr n0 L ∧ Keep h0 h [r0] ∧ h0.size ≤ b2_0 ∧ Exa Z h r0 "java/util/IdentityHashMap" ∧ Arv Z h b2_0 k2_1 (.object "java/lang/Object") (64 : Int32) [] .null ∧ Fld Z h r0 "java/util/IdentityHashMap" "table" "[Ljava/lang/Object;" (.ref b2_0) ∧ Ovr Z k2_1 "java/lang/Object"
theorem ef_3 (m : MethodId) (x0 : Addr) : entryFrame m #[(.ref x0)] 1 = mkF m 0 #[.val (.ref x0)] [] := by first | (simp [entryFrame, mkF, argsToLocals, Value.category]; done) | rfl
set_option maxRecDepth 65536 in
set_option maxHeartbeats 40000000 in
theorem rm3 (l : Launch) (Z : State) (a0 : Array Value) (hw : ∀ d ∈ tables_1, d.before a0 Z = true) (ws : List Jvm.Cond) (r0 : Addr) (u_table_r0 : Value) (h0 : Heap) (n0 : Nat) (Z0 : n0 ≤ h0.size) (E_r0 : Exa Z h0 r0 "java/util/IdentityHashMap") (F_table_r0 : Fld Z h0 r0 "java/util/IdentityHashMap" "table" "[Ljava/lang/Object;" u_table_r0) (g_r0 : n0 ≤ r0) :
    MetFree l (⟨"java/util/IdentityHashMap", "<init>", "()V"⟩ : MethodName) (head1 (Jvm.Cond.code (⟨"java/util/IdentityHashMap", "<init>", "()V"⟩ : MethodName) jdk_2581_method_3_code 1 none :: ws) ({ frames := 2, cells := 1, slots := 64, locals := 24 } : Room)) (fun a U => a = #[(.ref r0)] ∧ Z.Warmed39 U.vm ∧ U.heap = h0) (fun _ _ _ _ _ => True) (fun _ U o U' => ∃ v L, o = .returned v ∧ Q3 Z r0 u_table_r0 h0 n0 v U'.heap L ∧ FrameEnd U o U' L ({ frames := 2, cells := 1, slots := 64, locals := 24 } : Room).cells ({ frames := 2, cells := 1, slots := 64, locals := 24 } : Room).slots) := by
  refine MetFree.of_bodySF (plainFor_of_name pn_1) hisR ?_
  intro p e s m args below meth c s₁ Bd hml0 hP hK
  obtain ⟨rfl, hZ, hh⟩ := hP
  have hx := Bd.exec
  have hby := Bd.bytes
  have hml : c.maxLocals = 1 := hml0
  have hown : s.vm.findClass "java/util/IdentityHashMap" = some m.cls := findClass_of_methodNamed Bd.named
  have hnm := (name_of_methodNamed Bd.named Bd.method).1
  have X0 : Stand p l e ({ frames := 2, cells := 1, slots := 64, locals := 24 } : Room) s m #[(.ref r0)] below meth c s₁ [] 0 0 := Stand.of_body Bd
  have e0 : s₁.heap = h0 := by rw [← hh, Bd.state]; rfl
  have N0 := Fr.nil n0
  have pre0 : ∀ t, Steps p.tables e below (s₁.setTop (mkF m 0 #[.val (.ref r0)] [])) t → Steps p.tables e below (s₁.setTop (entryFrame m #[(.ref r0)] 1)) t := fun t k => castTop (ef_3 m r0) k
  obtain ⟨_, _, ⟨T1, L1, k1, n1⟩, -, X1, ⟨Lc1, hQ1, l1, y1, z1⟩, st1⟩ := X0.specialBack hx (y := (⟨"java/util/AbstractMap", "<init>", "()V"⟩ : MethodName)) rfl hown (mvT hZ (hw _ (List.mem_of_getElem? (i := 15) rfl))) (mvT hZ (hw _ (List.mem_of_getElem? (i := 16) rfl))) (mvT hZ (hw _ (List.mem_of_getElem? (i := 20) rfl))) (by decide) (backOf (W := 0) (rm4 l Z a0 hw [] r0 h0 n0 (Nat.le_trans Z0 (Keep.refl h0 [r0]).1) ) hZ (hw _ (List.mem_of_getElem? (i := 20) rfl)) (hw _ (List.mem_of_getElem? (i := 19) rfl)) (by decide) (by decide)) (g := (mkF m 1 #[.val (.ref r0)] [(.ref r0)])) rfl (by rw [hml]; rfl) (Steps.refl _) (a := r0) (argsL := []) (rest := []) (lenOf pd_0 rfl) rfl (by show 2 * 0 + _ ≤ _; exact Nat.le_of_eq rfl) (hb hby d3_1) (fun _ _ => ⟨rfl, e0, (by decide : 0 + 0 ≤ _), (by decide : 0 + 0 ≤ _)⟩)
  dsimp only [Pt.U, Pt.locs, Pt.cells, Pt.slots] at X1 l1 y1 z1 st1 hQ1
  subst l1 y1 z1
  obtain ⟨rfl, Nq1, e1⟩ := hQ1
  have N1 := Fr.app N0 Nq1
  obtain ⟨cq2, q2, q2'⟩ := E_r0.cell
  obtain ⟨_, _, ⟨T2, L2, k2, n2⟩, -, X2, ⟨Lc2, hQ2, l2, y2, z2⟩, st2⟩ := X1.privateBack hx (y := (⟨"java/util/IdentityHashMap", "init", "(I)V"⟩ : MethodName)) hown (mvT hZ (hw _ (List.mem_of_getElem? (i := 22) rfl))) (mvT hZ (hw _ (List.mem_of_getElem? (i := 23) rfl))) (mvT hZ (hw _ (List.mem_of_getElem? (i := 25) rfl))) (Cond.privateMethod_at (mvP hZ (hw _ (List.mem_of_getElem? (i := 24) rfl)) (args := #[]))) (mvT hZ (hw _ (List.mem_of_getElem? (i := 26) rfl))) (by decide) (backOf (W := 0) (rm5 l Z a0 hw [] r0 u_table_r0 h0 n0 (Nat.le_trans Z0 (Keep.refl h0 [r0]).1) E_r0 F_table_r0 g_r0) hZ (hw _ (List.mem_of_getElem? (i := 26) rfl)) (hw _ (List.mem_of_getElem? (i := 11) rfl)) (by decide) (by decide)) (g := (mkF m 7 #[.val (.ref r0)] [(.int (32 : Int32)), (.ref r0)])) rfl (by rw [hml]; rfl) (Steps.refl _) (a := r0) (by rw [e1]; exact q2) q2' (argsL := [(.int (32 : Int32))]) (rest := []) (lenOf pd_1 rfl) rfl (by show 2 * 0 + _ ≤ _; exact Nat.le_of_eq rfl) (hb hby d3_7) (fun _ _ => ⟨rfl, e1, (by decide : 0 + 1 ≤ _), (by decide : 0 + 64 ≤ _)⟩)
  dsimp only [Pt.U, Pt.locs, Pt.cells, Pt.slots] at X2 l2 y2 z2 st2 hQ2
  subst l2 y2 z2
  obtain ⟨b2_0, k2_1, rfl, Nq2, Kq2, sq2_0, f2_0, f2_1, f2_2, f2_3⟩ := hQ2
  have sz_b2_0 : h0.size ≤ b2_0 := Nat.le_trans (Keep.refl h0 [r0]).1 sq2_0
  have K3 : Keep h0 T2.heap [r0] := (Keep.refl h0 [r0]).trans Kq2 (allS (Or.inl (List.mem_of_getElem? (i := 0) rfl)) all0)
  have N2 := Fr.app N1 Nq2
  have pre4 : ∀ t, Steps p.tables e below (T2.setTop (mkF m 10 #[.val (.ref r0)] [])) t → Steps p.tables e below (s₁.setTop (entryFrame m #[(.ref r0)] 1)) t := by
    intro t k
    refine pre0 _ ?_
    show Steps p.tables e below (s₁.setTop (mkF m 0 #[.val (.ref r0)] [])) _
    refine XS.aloadN X0.here hx rfl (hb hby d3_0) rfl rfl ?_
    show Steps p.tables e below (s₁.setTop (mkF m 1 #[.val (.ref r0)] [(.ref r0)])) _
    refine st1.trans ?_
    show Steps p.tables e below (T1.setTop (mkF m 4 #[.val (.ref r0)] [])) _
    refine XS.aloadN X1.here hx rfl (hb hby d3_4) rfl rfl ?_
    show Steps p.tables e below (T1.setTop (mkF m 5 #[.val (.ref r0)] [(.ref r0)])) _
    refine XS.bipush X1.here hx rfl (hb hby d3_5) ?_
    show Steps p.tables e below (T1.setTop (mkF m 7 #[.val (.ref r0)] [(.int (32 : Int32)), (.ref r0)])) _
    refine st2.trans ?_
    exact k
  obtain ⟨fs, hr, hrun, hended, hW, hsame⟩ := X2.leave (v := none) (fun _ => rfl)
  refine ⟨_, _, pre4 _ ?_, hrun, hended, _, _, rfl, ?_, ⟨_, rfl⟩, hW, hsame.mono (by decide) (by decide)⟩
  · show Steps p.tables e below (T2.setTop (mkF m 10 #[.val (.ref r0)] [])) _
    exact X2.returnOut hx Bd.returns (hb hby d3_10) hr
  · show Q3 Z r0 u_table_r0 h0 n0 _ T2.heap _
    exact ⟨b2_0, k2_1, rfl, N2, K3, sz_b2_0, f2_1, f2_0, f2_2, f2_3⟩
def Q6 (Z : State) (r0 : Addr) (u_loadFactor_r0 : Value) (h0 : Heap) (n0 : Nat) (v : Option Value) (h : Heap) (L : List Loc) : Prop := v = none ∧ Fr n0 L ∧ Keep h0 h [r0] ∧ Exa Z h r0 "java/util/HashMap" ∧ Fld Z h r0 "java/util/HashMap" "loadFactor" "F" (.float (1061158912 : UInt32))
theorem ef_6 (m : MethodId) (x0 : Addr) : entryFrame m #[(.ref x0)] 1 = mkF m 0 #[.val (.ref x0)] [] := by first | (simp [entryFrame, mkF, argsToLocals, Value.category]; done) | rfl
set_option maxRecDepth 65536 in
set_option maxHeartbeats 40000000 in
theorem rm6 (l : Launch) (Z : State) (a0 : Array Value) (hw : ∀ d ∈ tables_1, d.before a0 Z = true) (ws : List Jvm.Cond) (r0 : Addr) (u_loadFactor_r0 : Value) (h0 : Heap) (n0 : Nat) (Z0 : n0 ≤ h0.size) (E_r0 : Exa Z h0 r0 "java/util/HashMap") (F_loadFactor_r0 : Fld Z h0 r0 "java/util/HashMap" "loadFactor" "F" u_loadFactor_r0) (g_r0 : n0 ≤ r0) :
    MetFree l (⟨"java/util/HashMap", "<init>", "()V"⟩ : MethodName) (head1 (Jvm.Cond.code (⟨"java/util/HashMap", "<init>", "()V"⟩ : MethodName) jdk_69_method_7_code 1 none :: ws) ({ frames := 2, cells := 0, slots := 0, locals := 24 } : Room)) (fun a U => a = #[(.ref r0)] ∧ Z.Warmed39 U.vm ∧ U.heap = h0) (fun _ _ _ _ _ => True) (fun _ U o U' => ∃ v L, o = .returned v ∧ Q6 Z r0 u_loadFactor_r0 h0 n0 v U'.heap L ∧ FrameEnd U o U' L ({ frames := 2, cells := 0, slots := 0, locals := 24 } : Room).cells ({ frames := 2, cells := 0, slots := 0, locals := 24 } : Room).slots) := by
  refine MetFree.of_bodySF (plainFor_of_name pn_2) hisR ?_
  intro p e s m args below meth c s₁ Bd hml0 hP hK
  obtain ⟨rfl, hZ, hh⟩ := hP
  have hx := Bd.exec
  have hby := Bd.bytes
  have hml : c.maxLocals = 1 := hml0
  have hown : s.vm.findClass "java/util/HashMap" = some m.cls := findClass_of_methodNamed Bd.named
  have hnm := (name_of_methodNamed Bd.named Bd.method).1
  have X0 : Stand p l e ({ frames := 2, cells := 0, slots := 0, locals := 24 } : Room) s m #[(.ref r0)] below meth c s₁ [] 0 0 := Stand.of_body Bd
  have e0 : s₁.heap = h0 := by rw [← hh, Bd.state]; rfl
  have N0 := Fr.nil n0
  have pre0 : ∀ t, Steps p.tables e below (s₁.setTop (mkF m 0 #[.val (.ref r0)] [])) t → Steps p.tables e below (s₁.setTop (entryFrame m #[(.ref r0)] 1)) t := fun t k => castTop (ef_6 m r0) k
  obtain ⟨_, _, ⟨T1, L1, k1, n1⟩, -, X1, ⟨Lc1, hQ1, l1, y1, z1⟩, st1⟩ := X0.specialBack hx (y := (⟨"java/util/AbstractMap", "<init>", "()V"⟩ : MethodName)) rfl hown (mvT hZ (hw _ (List.mem_of_getElem? (i := 41) rfl))) (mvT hZ (hw _ (List.mem_of_getElem? (i := 16) rfl))) (mvT hZ (hw _ (List.mem_of_getElem? (i := 20) rfl))) (by decide) (backOf (W := 0) (rm4 l Z a0 hw [] r0 h0 n0 (Nat.le_trans Z0 (Keep.refl h0 [r0]).1) ) hZ (hw _ (List.mem_of_getElem? (i := 20) rfl)) (hw _ (List.mem_of_getElem? (i := 19) rfl)) (by decide) (by decide)) (g := (mkF m 1 #[.val (.ref r0)] [(.ref r0)])) rfl (by rw [hml]; rfl) (Steps.refl _) (a := r0) (argsL := []) (rest := []) (lenOf pd_0 rfl) rfl (by show 2 * 0 + _ ≤ _; exact Nat.le_of_eq rfl) (hb hby d6_1) (fun _ _ => ⟨rfl, e0, (by decide : 0 + 0 ≤ _), (by decide : 0 + 0 ≤ _)⟩)
  dsimp only [Pt.U, Pt.locs, Pt.cells, Pt.slots] at X1 l1 y1 z1 st1 hQ1
  subst l1 y1 z1
  obtain ⟨rfl, Nq1, e1⟩ := hQ1
  have N1 := Fr.app N0 Nq1
  obtain ⟨T2, h2, X2, e2, W2, st2⟩ := putF X1 hx hZ hown (host := "") (Or.inl (hw _ (List.mem_of_getElem? (i := 44) rfl))) Via.refl e1 F_loadFactor_r0 E_r0 (Or.inr ⟨(hw _ (List.mem_of_getElem? (i := 45) rfl)), rfl, hnm⟩) (hw _ (List.mem_of_getElem? (i := 36) rfl)) (ty := .float) (by decide) rfl rfl (g := (mkF m 7 #[.val (.ref r0)] [(.float (1061158912 : UInt32)), (.ref r0)])) rfl rfl (hb hby d6_7)
  have N2 := Fr.snoc X2 N1 g_r0
  have K3 : Keep h0 h2 [r0] := (Keep.refl h0 [r0]).wr W2 (Or.inl (List.mem_of_getElem? (i := 0) rfl))
  have F2 := F_loadFactor_r0.same W2
  have pre4 : ∀ t, Steps p.tables e below (T2.setTop (mkF m 10 #[.val (.ref r0)] [])) t → Steps p.tables e below (s₁.setTop (entryFrame m #[(.ref r0)] 1)) t := by
    intro t k
    refine pre0 _ ?_
    show Steps p.tables e below (s₁.setTop (mkF m 0 #[.val (.ref r0)] [])) _
    refine XS.aloadN X0.here hx rfl (hb hby d6_0) rfl rfl ?_
    show Steps p.tables e below (s₁.setTop (mkF m 1 #[.val (.ref r0)] [(.ref r0)])) _
    refine st1.trans ?_
    show Steps p.tables e below (T1.setTop (mkF m 4 #[.val (.ref r0)] [])) _
    refine XS.aloadN X1.here hx rfl (hb hby d6_4) rfl rfl ?_
    show Steps p.tables e below (T1.setTop (mkF m 5 #[.val (.ref r0)] [(.ref r0)])) _
    refine X1.ldcFloatC hx hown (mvT hZ (hw _ (List.mem_of_getElem? (i := 43) rfl))) (g := (mkF m 5 #[.val (.ref r0)] [(.ref r0)])) rfl (hb hby d6_5) _ ?_
    show Steps p.tables e below (T1.setTop (mkF m 7 #[.val (.ref r0)] [(.float (1061158912 : UInt32)), (.ref r0)])) _
    refine st2 _ ?_
    exact k
  have f5 := (E_r0.wr W2)
  obtain ⟨fs, hr, hrun, hended, hW, hsame⟩ := X2.leave (v := none) (fun _ => rfl)
  refine ⟨_, _, pre4 _ ?_, hrun, hended, _, _, rfl, ?_, ⟨_, rfl⟩, hW, hsame.mono (by decide) (by decide)⟩
  · show Steps p.tables e below (T2.setTop (mkF m 10 #[.val (.ref r0)] [])) _
    exact X2.returnOut hx Bd.returns (hb hby d6_10) hr
  · show Q6 Z r0 u_loadFactor_r0 h0 n0 _ T2.heap _
    rw [e2]
    exact ⟨rfl, N2, K3, f5, F2⟩
def Q1 (Z : State) (r0 : Addr) (u_endedUnclaimed_r0 : Value) (u_loadsOfInstances_r0 : Value) (u_references_r0 : Value) (u_collectionsByRole_r0 : Value) (h0 : Heap) (n0 : Nat) (v : Option Value) (h : Heap) (L : List Loc) : Prop := v = none ∧ Fr n0 L ∧ Keep h0 h [r0] ∧ Exa Z h r0 "com/example/fetchwright/fetchwright/service/Provenance" ∧ Fld Z h r0 "com/example/fetchwright/fetchwright/service/Provenance" "endedUnclaimed" "J" u_endedUnclaimed_r0
theorem ef_1 (m : MethodId) (x0 : Addr) : entryFrame m #[(.ref x0)] 1 = mkF m 0 #[.val (.ref x0)] [] := by first | (simp [entryFrame, mkF, argsToLocals, Value.category]; done) | rfl
set_option maxRecDepth 65536 in
set_option maxHeartbeats 40000000 in
theorem rm1 (l : Launch) (Z : State) (a0 : Array Value) (hw : ∀ d ∈ tables_1, d.before a0 Z = true) (ws : List Jvm.Cond) (r0 : Addr) (u_endedUnclaimed_r0 : Value) (u_loadsOfInstances_r0 : Value) (u_references_r0 : Value) (u_collectionsByRole_r0 : Value) (h0 : Heap) (n0 : Nat) (Z0 : n0 ≤ h0.size) (F_endedUnclaimed_r0 : Fld Z h0 r0 "com/example/fetchwright/fetchwright/service/Provenance" "endedUnclaimed" "J" u_endedUnclaimed_r0) (E_r0 : Exa Z h0 r0 "com/example/fetchwright/fetchwright/service/Provenance") (F_loadsOfInstances_r0 : Fld Z h0 r0 "com/example/fetchwright/fetchwright/service/Provenance" "loadsOfInstances" "Ljava/util/Map;" u_loadsOfInstances_r0) (g_r0 : n0 ≤ r0) (F_references_r0 : Fld Z h0 r0 "com/example/fetchwright/fetchwright/service/Provenance" "references" "Ljava/util/Map;" u_references_r0) (F_collectionsByRole_r0 : Fld Z h0 r0 "com/example/fetchwright/fetchwright/service/Provenance" "collectionsByRole" "Ljava/util/Map;" u_collectionsByRole_r0) :
    MetFree l (⟨"com/example/fetchwright/fetchwright/service/Provenance", "<init>", "()V"⟩ : MethodName) (head1 (Jvm.Cond.code (⟨"com/example/fetchwright/fetchwright/service/Provenance", "<init>", "()V"⟩ : MethodName) prog_12_method_1_code 1 none :: ws) ({ frames := 3, cells := 5, slots := 148, locals := 38 } : Room)) (fun a U => a = #[(.ref r0)] ∧ Z.Warmed39 U.vm ∧ U.heap = h0) (fun _ _ _ _ _ => True) (fun _ U o U' => ∃ v L, o = .returned v ∧ Q1 Z r0 u_endedUnclaimed_r0 u_loadsOfInstances_r0 u_references_r0 u_collectionsByRole_r0 h0 n0 v U'.heap L ∧ FrameEnd U o U' L ({ frames := 3, cells := 5, slots := 148, locals := 38 } : Room).cells ({ frames := 3, cells := 5, slots := 148, locals := 38 } : Room).slots) := by
  refine MetFree.of_bodySF (plainFor_of_name pn_3) hisR ?_
  intro p e s m args below meth c s₁ Bd hml0 hP hK
  obtain ⟨rfl, hZ, hh⟩ := hP
  have hx := Bd.exec
  have hby := Bd.bytes
  have hml : c.maxLocals = 1 := hml0
  have hown : s.vm.findClass "com/example/fetchwright/fetchwright/service/Provenance" = some m.cls := findClass_of_methodNamed Bd.named
  have hnm := (name_of_methodNamed Bd.named Bd.method).1
  have X0 : Stand p l e ({ frames := 3, cells := 5, slots := 148, locals := 38 } : Room) s m #[(.ref r0)] below meth c s₁ [] 0 0 := Stand.of_body Bd
  have e0 : s₁.heap = h0 := by rw [← hh, Bd.state]; rfl
  have N0 := Fr.nil n0
  have pre0 : ∀ t, Steps p.tables e below (s₁.setTop (mkF m 0 #[.val (.ref r0)] [])) t → Steps p.tables e below (s₁.setTop (entryFrame m #[(.ref r0)] 1)) t := fun t k => castTop (ef_1 m r0) k
  obtain ⟨T1, X1, e1, st1⟩ := initO X0 hx hZ hown (hw _ (List.mem_of_getElem? (i := 6) rfl)) (hw _ (List.mem_of_getElem? (i := 7) rfl)) (hw _ (List.mem_of_getElem? (i := 8) rfl)) e0 (g := (mkF m 1 #[.val (.ref r0)] [(.ref r0)])) rfl (by rw [hml]; rfl) rfl (hb hby d1_1) (by decide) (W := 0) (by show 2 * 0 + _ ≤ _; exact Nat.le_of_eq rfl) (by decide)
  obtain ⟨T2, h2, X2, e2, E2, A2, D2, -, st2⟩ := newO X1 hx hZ hown (hw _ (List.mem_of_getElem? (i := 9) rfl)) (hw _ (List.mem_of_getElem? (i := 10) rfl)) (hw _ (List.mem_of_getElem? (i := 11) rfl)) e1 (g := (mkF m 5 #[.val (.ref r0)] [(.ref r0)])) rfl (hb hby d1_5) (by decide) (by decide)
  obtain ⟨b2, g2⟩ : ∃ z, z = h0.size := ⟨_, rfl⟩
  rw [← g2] at A2 D2 st2
  have sz_b2 : h0.size ≤ b2 := Nat.le_trans (Keep.refl h0 [r0]).1 (Nat.le_of_eq g2.symm)
  have K3 : Keep h0 h2 [r0] := (Keep.refl h0 [r0]).ext E2
  have Ftable_2 : Fld Z h2 b2 "java/util/IdentityHashMap" "table" "[Ljava/lang/Object;" .null := D2 (Or.inl (hw _ (List.mem_of_getElem? (i := 30) rfl))) (ty := (.array (.object "java/lang/Object"))) (by decide)
  obtain ⟨_, _, ⟨T4, L4, k4, n4⟩, -, X4, ⟨Lc4, hQ4, l4, y4, z4⟩, st4⟩ := X2.specialBack hx (y := (⟨"java/util/IdentityHashMap", "<init>", "()V"⟩ : MethodName)) rfl hown (mvT hZ (hw _ (List.mem_of_getElem? (i := 12) rfl))) (mvT hZ (hw _ (List.mem_of_getElem? (i := 13) rfl))) (mvT hZ (hw _ (List.mem_of_getElem? (i := 14) rfl))) (by decide) (backOf (W := 2) (rm3 l Z a0 hw [] b2 (.null) h2 n0 (Nat.le_trans Z0 K3.1) A2 Ftable_2 (Nat.le_trans Z0 sz_b2)) hZ (hw _ (List.mem_of_getElem? (i := 14) rfl)) (hw _ (List.mem_of_getElem? (i := 11) rfl)) (by decide) (by decide)) (g := (mkF m 9 #[.val (.ref r0)] [(.ref b2), (.ref b2), (.ref r0)])) rfl (by rw [hml]; rfl) (Steps.refl _) (a := b2) (argsL := []) (rest := [(.ref b2), (.ref r0)]) (lenOf pd_0 rfl) rfl (by show 2 * 0 + _ ≤ _; exact Nat.le_of_eq rfl) (hb hby d1_9) (fun _ _ => ⟨rfl, e2, (by decide : 1 + 1 ≤ _), (by decide : 6 + 64 ≤ _)⟩)
  dsimp only [Pt.U, Pt.locs, Pt.cells, Pt.slots] at X4 l4 y4 z4 st4 hQ4
  subst l4 y4 z4
  obtain ⟨b4_0, k4_1, rfl, Nq4, Kq4, sq4_0, f4_0, f4_1, f4_2, f4_3⟩ := hQ4
  have sz_b4_0 : h0.size ≤ b4_0 := Nat.le_trans K3.1 sq4_0
  have K5 : Keep h0 T4.heap [r0] := K3.trans Kq4 (allS (Or.inr sz_b2) all0)
  have N4 := Fr.app N0 Nq4
  have f6 := ((E_r0.ext E2).keep Kq4)
  have f7 := ((F_loadsOfInstances_r0.ext E2).keep Kq4 (ninS (Nat.ne_of_lt (Nat.lt_of_lt_of_le F_endedUnclaimed_r0.lt (Nat.le_trans (Nat.le_refl _) (Nat.le_of_eq g2.symm)))) nin0))
  obtain ⟨T8, h8, X8, e8, W8, st8⟩ := putF X4 hx hZ hown (host := "") (Or.inl (hw _ (List.mem_of_getElem? (i := 31) rfl))) Via.refl rfl f7 f6 (Or.inr ⟨(hw _ (List.mem_of_getElem? (i := 32) rfl)), rfl, hnm⟩) (hw _ (List.mem_of_getElem? (i := 1) rfl)) (ty := (.object "java/util/Map")) (by decide) rfl rfl (g := (mkF m 12 #[.val (.ref r0)] [(.ref b2), (.ref r0)])) rfl rfl (hb hby d1_12)
  have N8 := Fr.snoc X8 N4 g_r0
  have K9 : Keep h0 h8 [r0] := K5.wr W8 (Or.inl (List.mem_of_getElem? (i := 0) rfl))
  have F8 := f7.same W8
  obtain ⟨T10, h10, X10, e10, E10, A10, D10, -, st10⟩ := newO X8 hx hZ hown (hw _ (List.mem_of_getElem? (i := 9) rfl)) (hw _ (List.mem_of_getElem? (i := 10) rfl)) (hw _ (List.mem_of_getElem? (i := 11) rfl)) e8 (g := (mkF m 16 #[.val (.ref r0)] [(.ref r0)])) rfl (hb hby d1_16) (by decide) (by decide)
  obtain ⟨b10, g10⟩ : ∃ z, z = h8.size := ⟨_, rfl⟩
  rw [← g10] at A10 D10 st10
  have sz_b10 : h0.size ≤ b10 := Nat.le_trans K9.1 (Nat.le_of_eq g10.symm)
  have K11 : Keep h0 h10 [r0] := K9.ext E10
  have Ftable_10 : Fld Z h10 b10 "java/util/IdentityHashMap" "table" "[Ljava/lang/Object;" .null := D10 (Or.inl (hw _ (List.mem_of_getElem? (i := 30) rfl))) (ty := (.array (.object "java/lang/Object"))) (by decide)
  obtain ⟨_, _, ⟨T12, L12, k12, n12⟩, -, X12, ⟨Lc12, hQ12, l12, y12, z12⟩, st12⟩ := X10.specialBack hx (y := (⟨"java/util/IdentityHashMap", "<init>", "()V"⟩ : MethodName)) rfl hown (mvT hZ (hw _ (List.mem_of_getElem? (i := 12) rfl))) (mvT hZ (hw _ (List.mem_of_getElem? (i := 13) rfl))) (mvT hZ (hw _ (List.mem_of_getElem? (i := 14) rfl))) (by decide) (backOf (W := 2) (rm3 l Z a0 hw [] b10 (.null) h10 n0 (Nat.le_trans Z0 K11.1) A10 Ftable_10 (Nat.le_trans Z0 sz_b10)) hZ (hw _ (List.mem_of_getElem? (i := 14) rfl)) (hw _ (List.mem_of_getElem? (i := 11) rfl)) (by decide) (by decide)) (g := (mkF m 20 #[.val (.ref r0)] [(.ref b10), (.ref b10), (.ref r0)])) rfl (by rw [hml]; rfl) (Steps.refl _) (a := b10) (argsL := []) (rest := [(.ref b10), (.ref r0)]) (lenOf pd_0 rfl) rfl (by show 2 * 0 + _ ≤ _; exact Nat.le_of_eq rfl) (hb hby d1_20) (fun _ _ => ⟨rfl, e10, (by decide : 3 + 1 ≤ _), (by decide : 76 + 64 ≤ _)⟩)
  dsimp only [Pt.U, Pt.locs, Pt.cells, Pt.slots] at X12 l12 y12 z12 st12 hQ12
  subst l12 y12 z12
  obtain ⟨b12_0, k12_1, rfl, Nq12, Kq12, sq12_0, f12_0, f12_1, f12_2, f12_3⟩ := hQ12
  have sz_b12_0 : h0.size ≤ b12_0 := Nat.le_trans K11.1 sq12_0
  have K13 : Keep h0 T12.heap [r0] := K11.trans Kq12 (allS (Or.inr sz_b10) all0)
  have N12 := Fr.app N8 Nq12
  have f14 := (((f6.wr W8).ext E10).keep Kq12)
  have f15 := (((((F_references_r0.ext E2).keep Kq4 (ninS (Nat.ne_of_lt (Nat.lt_of_lt_of_le F_endedUnclaimed_r0.lt (Nat.le_trans (Nat.le_refl _) (Nat.le_of_eq g2.symm)))) nin0)).other W8 (Or.inr (slot_ne (Or.inr (hw _ (List.mem_of_getElem? (i := 34) rfl))) (Or.inr (hw _ (List.mem_of_getElem? (i := 32) rfl))) (by decide) (t := (.object "java/util/Map")) (t' := (.object "java/util/Map")) (by decide) (by decide)))).ext E10).keep Kq12 (ninS (Nat.ne_of_lt (Nat.lt_of_lt_of_le F_endedUnclaimed_r0.lt (Nat.le_trans (Nat.le_trans (Nat.le_trans E2.1 Kq4.1) (Keep.of_wr W8).1) (Nat.le_of_eq g10.symm)))) nin0))
  obtain ⟨T16, h16, X16, e16, W16, st16⟩ := putF X12 hx hZ hown (host := "") (Or.inl (hw _ (List.mem_of_getElem? (i := 33) rfl))) Via.refl rfl f15 f14 (Or.inr ⟨(hw _ (List.mem_of_getElem? (i := 34) rfl)), rfl, hnm⟩) (hw _ (List.mem_of_getElem? (i := 1) rfl)) (ty := (.object "java/util/Map")) (by decide) rfl rfl (g := (mkF m 23 #[.val (.ref r0)] [(.ref b10), (.ref r0)])) rfl rfl (hb hby d1_23)
  have N16 := Fr.snoc X16 N12 g_r0
  have K17 : Keep h0 h16 [r0] := K13.wr W16 (Or.inl (List.mem_of_getElem? (i := 0) rfl))
  have F16 := f15.same W16
  obtain ⟨T18, h18, X18, e18, E18, A18, D18, -, st18⟩ := newO X16 hx hZ hown (hw _ (List.mem_of_getElem? (i := 35) rfl)) (hw _ (List.mem_of_getElem? (i := 36) rfl)) (hw _ (List.mem_of_getElem? (i := 37) rfl)) e16 (g := (mkF m 27 #[.val (.ref r0)] [(.ref r0)])) rfl (hb hby d1_27) (by decide) (by decide)
  obtain ⟨b18, g18⟩ : ∃ z, z = h16.size := ⟨_, rfl⟩
  rw [← g18] at A18 D18 st18
  have sz_b18 : h0.size ≤ b18 := Nat.le_trans K17.1 (Nat.le_of_eq g18.symm)
  have K19 : Keep h0 h18 [r0] := K17.ext E18
  have FloadFactor_18 : Fld Z h18 b18 "java/util/HashMap" "loadFactor" "F" (.float (0 : UInt32)) := D18 (Or.inr (hw _ (List.mem_of_getElem? (i := 45) rfl))) (ty := .float) (by decide)
  obtain ⟨_, _, ⟨T20, L20, k20, n20⟩, -, X20, ⟨Lc20, hQ20, l20, y20, z20⟩, st20⟩ := X18.specialBack hx (y := (⟨"java/util/HashMap", "<init>", "()V"⟩ : MethodName)) rfl hown (mvT hZ (hw _ (List.mem_of_getElem? (i := 38) rfl))) (mvT hZ (hw _ (List.mem_of_getElem? (i := 39) rfl))) (mvT hZ (hw _ (List.mem_of_getElem? (i := 40) rfl))) (by decide) (backOf (W := 2) (rm6 l Z a0 hw [] b18 (.float (0 : UInt32)) h18 n0 (Nat.le_trans Z0 K19.1) A18 FloadFactor_18 (Nat.le_trans Z0 sz_b18)) hZ (hw _ (List.mem_of_getElem? (i := 40) rfl)) (hw _ (List.mem_of_getElem? (i := 37) rfl)) (by decide) (by decide)) (g := (mkF m 31 #[.val (.ref r0)] [(.ref b18), (.ref b18), (.ref r0)])) rfl (by rw [hml]; rfl) (Steps.refl _) (a := b18) (argsL := []) (rest := [(.ref b18), (.ref r0)]) (lenOf pd_0 rfl) rfl (by show 2 * 0 + _ ≤ _; exact Nat.le_of_eq rfl) (hb hby d1_31) (fun _ _ => ⟨rfl, e18, (by decide : 5 + 0 ≤ _), (by decide : 148 + 0 ≤ _)⟩)
  dsimp only [Pt.U, Pt.locs, Pt.cells, Pt.slots] at X20 l20 y20 z20 st20 hQ20
  subst l20 y20 z20
  obtain ⟨rfl, Nq20, Kq20, f20_0, f20_1⟩ := hQ20
  have K21 : Keep h0 T20.heap [r0] := K19.trans Kq20 (allS (Or.inr sz_b18) all0)
  have N20 := Fr.app N16 Nq20
  have f22 := (((f14.wr W16).ext E18).keep Kq20)
  have f23 := ((((((((F_collectionsByRole_r0.ext E2).keep Kq4 (ninS (Nat.ne_of_lt (Nat.lt_of_lt_of_le F_endedUnclaimed_r0.lt (Nat.le_trans (Nat.le_refl _) (Nat.le_of_eq g2.symm)))) nin0)).other W8 (Or.inr (slot_ne (Or.inr (hw _ (List.mem_of_getElem? (i := 47) rfl))) (Or.inr (hw _ (List.mem_of_getElem? (i := 32) rfl))) (by decide) (t := (.object "java/util/Map")) (t' := (.object "java/util/Map")) (by decide) (by decide)))).ext E10).keep Kq12 (ninS (Nat.ne_of_lt (Nat.lt_of_lt_of_le F_endedUnclaimed_r0.lt (Nat.le_trans (Nat.le_trans (Nat.le_trans E2.1 Kq4.1) (Keep.of_wr W8).1) (Nat.le_of_eq g10.symm)))) nin0)).other W16 (Or.inr (slot_ne (Or.inr (hw _ (List.mem_of_getElem? (i := 47) rfl))) (Or.inr (hw _ (List.mem_of_getElem? (i := 34) rfl))) (by decide) (t := (.object "java/util/Map")) (t' := (.object "java/util/Map")) (by decide) (by decide)))).ext E18).keep Kq20 (ninS (Nat.ne_of_lt (Nat.lt_of_lt_of_le F_endedUnclaimed_r0.lt (Nat.le_trans (Nat.le_trans (Nat.le_trans (Nat.le_trans (Nat.le_trans (Nat.le_trans E2.1 Kq4.1) (Keep.of_wr W8).1) E10.1) Kq12.1) (Keep.of_wr W16).1) (Nat.le_of_eq g18.symm)))) nin0))
  obtain ⟨T24, h24, X24, e24, W24, st24⟩ := putF X20 hx hZ hown (host := "") (Or.inl (hw _ (List.mem_of_getElem? (i := 46) rfl))) Via.refl rfl f23 f22 (Or.inr ⟨(hw _ (List.mem_of_getElem? (i := 47) rfl)), rfl, hnm⟩) (hw _ (List.mem_of_getElem? (i := 1) rfl)) (ty := (.object "java/util/Map")) (by decide) rfl rfl (g := (mkF m 34 #[.val (.ref r0)] [(.ref b18), (.ref r0)])) rfl rfl (hb hby d1_34)
  have N24 := Fr.snoc X24 N20 g_r0
  have K25 : Keep h0 h24 [r0] := K21.wr W24 (Or.inl (List.mem_of_getElem? (i := 0) rfl))
  have F24 := f23.same W24
  have pre26 : ∀ t, Steps p.tables e below (T24.setTop (mkF m 37 #[.val (.ref r0)] [])) t → Steps p.tables e below (s₁.setTop (entryFrame m #[(.ref r0)] 1)) t := by
    intro t k
    refine pre0 _ ?_
    show Steps p.tables e below (s₁.setTop (mkF m 0 #[.val (.ref r0)] [])) _
    refine XS.aloadN X0.here hx rfl (hb hby d1_0) rfl rfl ?_
    show Steps p.tables e below (s₁.setTop (mkF m 1 #[.val (.ref r0)] [(.ref r0)])) _
    refine st1 _ ?_
    show Steps p.tables e below (T1.setTop (mkF m 4 #[.val (.ref r0)] [])) _
    refine XS.aloadN X1.here hx rfl (hb hby d1_4) rfl rfl ?_
    show Steps p.tables e below (T1.setTop (mkF m 5 #[.val (.ref r0)] [(.ref r0)])) _
    refine st2 _ ?_
    show Steps p.tables e below (T2.setTop (mkF m 8 #[.val (.ref r0)] [(.ref b2), (.ref r0)])) _
    refine XS.dup X2.here hx rfl (hb hby d1_8) rfl rfl ?_
    show Steps p.tables e below (T2.setTop (mkF m 9 #[.val (.ref r0)] [(.ref b2), (.ref b2), (.ref r0)])) _
    refine st4.trans ?_
    show Steps p.tables e below (T4.setTop (mkF m 12 #[.val (.ref r0)] [(.ref b2), (.ref r0)])) _
    refine st8 _ ?_
    show Steps p.tables e below (T8.setTop (mkF m 15 #[.val (.ref r0)] [])) _
    refine XS.aloadN X8.here hx rfl (hb hby d1_15) rfl rfl ?_
    show Steps p.tables e below (T8.setTop (mkF m 16 #[.val (.ref r0)] [(.ref r0)])) _
    refine st10 _ ?_
    show Steps p.tables e below (T10.setTop (mkF m 19 #[.val (.ref r0)] [(.ref b10), (.ref r0)])) _
    refine XS.dup X10.here hx rfl (hb hby d1_19) rfl rfl ?_
    show Steps p.tables e below (T10.setTop (mkF m 20 #[.val (.ref r0)] [(.ref b10), (.ref b10), (.ref r0)])) _
    refine st12.trans ?_
    show Steps p.tables e below (T12.setTop (mkF m 23 #[.val (.ref r0)] [(.ref b10), (.ref r0)])) _
    refine st16 _ ?_
    show Steps p.tables e below (T16.setTop (mkF m 26 #[.val (.ref r0)] [])) _
    refine XS.aloadN X16.here hx rfl (hb hby d1_26) rfl rfl ?_
    show Steps p.tables e below (T16.setTop (mkF m 27 #[.val (.ref r0)] [(.ref r0)])) _
    refine st18 _ ?_
    show Steps p.tables e below (T18.setTop (mkF m 30 #[.val (.ref r0)] [(.ref b18), (.ref r0)])) _
    refine XS.dup X18.here hx rfl (hb hby d1_30) rfl rfl ?_
    show Steps p.tables e below (T18.setTop (mkF m 31 #[.val (.ref r0)] [(.ref b18), (.ref b18), (.ref r0)])) _
    refine st20.trans ?_
    show Steps p.tables e below (T20.setTop (mkF m 34 #[.val (.ref r0)] [(.ref b18), (.ref r0)])) _
    refine st24 _ ?_
    exact k
  have f27 := (f22.wr W24)
  have f28 := (((((((((F_endedUnclaimed_r0.ext E2).keep Kq4 (ninS (Nat.ne_of_lt (Nat.lt_of_lt_of_le F_endedUnclaimed_r0.lt (Nat.le_trans (Nat.le_refl _) (Nat.le_of_eq g2.symm)))) nin0)).other W8 (Or.inr (slot_ne (Or.inl (hw _ (List.mem_of_getElem? (i := 54) rfl))) (Or.inr (hw _ (List.mem_of_getElem? (i := 32) rfl))) (by decide) (t := .long) (t' := (.object "java/util/Map")) (by decide) (by decide)))).ext E10).keep Kq12 (ninS (Nat.ne_of_lt (Nat.lt_of_lt_of_le F_endedUnclaimed_r0.lt (Nat.le_trans (Nat.le_trans (Nat.le_trans E2.1 Kq4.1) (Keep.of_wr W8).1) (Nat.le_of_eq g10.symm)))) nin0)).other W16 (Or.inr (slot_ne (Or.inl (hw _ (List.mem_of_getElem? (i := 54) rfl))) (Or.inr (hw _ (List.mem_of_getElem? (i := 34) rfl))) (by decide) (t := .long) (t' := (.object "java/util/Map")) (by decide) (by decide)))).ext E18).keep Kq20 (ninS (Nat.ne_of_lt (Nat.lt_of_lt_of_le F_endedUnclaimed_r0.lt (Nat.le_trans (Nat.le_trans (Nat.le_trans (Nat.le_trans (Nat.le_trans (Nat.le_trans E2.1 Kq4.1) (Keep.of_wr W8).1) E10.1) Kq12.1) (Keep.of_wr W16).1) (Nat.le_of_eq g18.symm)))) nin0)).other W24 (Or.inr (slot_ne (Or.inl (hw _ (List.mem_of_getElem? (i := 54) rfl))) (Or.inr (hw _ (List.mem_of_getElem? (i := 47) rfl))) (by decide) (t := .long) (t' := (.object "java/util/Map")) (by decide) (by decide))))
  obtain ⟨fs, hr, hrun, hended, hW, hsame⟩ := X24.leave (v := none) (fun _ => rfl)
  refine ⟨_, _, pre26 _ ?_, hrun, hended, _, _, rfl, ?_, ⟨_, rfl⟩, hW, hsame.mono (by decide) (by decide)⟩
  · show Steps p.tables e below (T24.setTop (mkF m 37 #[.val (.ref r0)] [])) _
    exact X24.returnOut hx Bd.returns (hb hby d1_37) hr
  · show Q1 Z r0 u_endedUnclaimed_r0 u_loadsOfInstances_r0 u_references_r0 u_collectionsByRole_r0 h0 n0 _ T24.heap _
    rw [e24]
    exact ⟨rfl, N24, K25, f27, f28⟩
def own_j7_6_0 (w_endedUnclaimed_r0 : Int64) : Int32 := (if (0 : Int64) < w_endedUnclaimed_r0 then (1 : Int32) else (0 : Int32))
def Q7 (Z : State) (r0 : Addr) (w_endedUnclaimed_r0 : Int64) (h0 : Heap) (n0 : Nat) (v : Option Value) (h : Heap) (L : List Loc) : Prop := v = some (.int (nar .boolean (own_j7_6_0 w_endedUnclaimed_r0))) ∧ Fr n0 L ∧ h = h0
theorem ef_7 (m : MethodId) (x0 : Addr) : entryFrame m #[(.ref x0)] 1 = mkF m 0 #[.val (.ref x0)] [] := by first | (simp [entryFrame, mkF, argsToLocals, Value.category]; done) | rfl
set_option maxRecDepth 65536 in
set_option maxHeartbeats 40000000 in
theorem rm7 (l : Launch) (Z : State) (a0 : Array Value) (hw : ∀ d ∈ tables_1, d.before a0 Z = true) (ws : List Jvm.Cond) (r0 : Addr) (w_endedUnclaimed_r0 : Int64) (h0 : Heap) (n0 : Nat) (Z0 : n0 ≤ h0.size) (F_endedUnclaimed_r0 : Fld Z h0 r0 "com/example/fetchwright/fetchwright/service/Provenance" "endedUnclaimed" "J" (.long w_endedUnclaimed_r0)) :
    MetFree l (⟨"com/example/fetchwright/fetchwright/service/Provenance", "awaitsReferences", "()Z"⟩ : MethodName) (head1 (Jvm.Cond.code (⟨"com/example/fetchwright/fetchwright/service/Provenance", "awaitsReferences", "()Z"⟩ : MethodName) prog_12_method_6_code 1 (some .boolean) :: ws) ({ frames := 0, cells := 0, slots := 0, locals := 0 } : Room)) (fun a U => a = #[(.ref r0)] ∧ Z.Warmed39 U.vm ∧ U.heap = h0) (fun _ _ _ _ _ => True) (fun _ U o U' => ∃ v L, o = .returned v ∧ Q7 Z r0 w_endedUnclaimed_r0 h0 n0 v U'.heap L ∧ FrameEnd U o U' L ({ frames := 0, cells := 0, slots := 0, locals := 0 } : Room).cells ({ frames := 0, cells := 0, slots := 0, locals := 0 } : Room).slots) := by
  refine MetFree.of_bodySF (plainFor_of_name pn_3) hisR ?_
  intro p e s m args below meth c s₁ Bd hml0 hP hK
  obtain ⟨rfl, hZ, hh⟩ := hP
  have hx := Bd.exec
  have hby := Bd.bytes
  have hml : c.maxLocals = 1 := hml0
  have hown : s.vm.findClass "com/example/fetchwright/fetchwright/service/Provenance" = some m.cls := findClass_of_methodNamed Bd.named
  have hnm := (name_of_methodNamed Bd.named Bd.method).1
  have X0 : Stand p l e ({ frames := 0, cells := 0, slots := 0, locals := 0 } : Room) s m #[(.ref r0)] below meth c s₁ [] 0 0 := Stand.of_body Bd
  have e0 : s₁.heap = h0 := by rw [← hh, Bd.state]; rfl
  have N0 := Fr.nil n0
  have pre0 : ∀ t, Steps p.tables e below (s₁.setTop (mkF m 0 #[.val (.ref r0)] [])) t → Steps p.tables e below (s₁.setTop (entryFrame m #[(.ref r0)] 1)) t := fun t k => castTop (ef_7 m r0) k
  obtain ⟨T1, X1, e1, st1⟩ := getF X0 hx hZ hown (host := "") (Or.inl (hw _ (List.mem_of_getElem? (i := 53) rfl))) Via.refl e0 F_endedUnclaimed_r0 (g := (mkF m 1 #[.val (.ref r0)] [(.ref r0)])) rfl rfl (hb hby d7_1)
  have pre2 : ∀ t, Steps p.tables e below (T1.setTop (mkF m 6 #[.val (.ref r0)] [(.int (lcmpW w_endedUnclaimed_r0 (0 : Int64)))])) t → Steps p.tables e below (s₁.setTop (entryFrame m #[(.ref r0)] 1)) t := by
    intro t k
    refine pre0 _ ?_
    show Steps p.tables e below (s₁.setTop (mkF m 0 #[.val (.ref r0)] [])) _
    refine XS.aloadN X0.here hx rfl (hb hby d7_0) rfl rfl ?_
    show Steps p.tables e below (s₁.setTop (mkF m 1 #[.val (.ref r0)] [(.ref r0)])) _
    refine st1 _ ?_
    show Steps p.tables e below (T1.setTop (mkF m 4 #[.val (.ref r0)] [(.long w_endedUnclaimed_r0)])) _
    refine XS.lconst X1.here hx rfl (hb hby d7_4) ?_
    show Steps p.tables e below (T1.setTop (mkF m 5 #[.val (.ref r0)] [(.long (0 : Int64)), (.long w_endedUnclaimed_r0)])) _
    refine XS.lcmp X1.here hx rfl (hb hby d7_5) rfl ?_
    exact k
  have pre6 : ∀ t, Steps p.tables e below (T1.setTop (mkF m 14 #[.val (.ref r0)] [(.int (own_j7_6_0 w_endedUnclaimed_r0))])) t → Steps p.tables e below (s₁.setTop (entryFrame m #[(.ref r0)] 1)) t := by
    by_cases hc6_3 : (0 : Int64) < w_endedUnclaimed_r0
    · have pre4 : ∀ t, Steps p.tables e below (T1.setTop (mkF m 14 #[.val (.ref r0)] [(.int (1 : Int32))])) t → Steps p.tables e below (s₁.setTop (entryFrame m #[(.ref r0)] 1)) t := by
        intro t k
        refine pre2 _ ?_
        show Steps p.tables e below (T1.setTop (mkF m 6 #[.val (.ref r0)] [(.int (lcmpW w_endedUnclaimed_r0 (0 : Int64)))])) _
        refine XS.ifNo X1.here hx rfl (hb hby d7_6) rfl ((if0 _ _).trans (tlt ((lw_gt w_endedUnclaimed_r0 (0 : Int64)).mpr hc6_3)).2.2.2) ?_
        show Steps p.tables e below (T1.setTop (mkF m 9 #[.val (.ref r0)] [])) _
        refine XS.iconst X1.here hx rfl (hb hby d7_9) ?_
        show Steps p.tables e below (T1.setTop (mkF m 10 #[.val (.ref r0)] [(.int (1 : Int32))])) _
        refine XS.goto X1.here hx rfl (pc0 := 10) (pc' := 14) rfl (hb hby d7_10) (by decide) (by decide) ?_
        exact k
      exact fun t k => pre4 t (by rw [show (own_j7_6_0 w_endedUnclaimed_r0) = (1 : Int32) from (if_pos hc6_3)] at k; exact k)
    · have pre5 : ∀ t, Steps p.tables e below (T1.setTop (mkF m 14 #[.val (.ref r0)] [(.int (0 : Int32))])) t → Steps p.tables e below (s₁.setTop (entryFrame m #[(.ref r0)] 1)) t := by
        intro t k
        refine pre2 _ ?_
        show Steps p.tables e below (T1.setTop (mkF m 6 #[.val (.ref r0)] [(.int (lcmpW w_endedUnclaimed_r0 (0 : Int64)))])) _
        refine XS.ifYes X1.here hx rfl (pc0 := 6) (pc' := 13) rfl (hb hby d7_6) rfl ((if0 _ _).trans (flt (mt (lw_gt w_endedUnclaimed_r0 (0 : Int64)).mp hc6_3)).2.2.2) (by decide) (by decide) ?_
        show Steps p.tables e below (T1.setTop (mkF m 13 #[.val (.ref r0)] [])) _
        refine XS.iconst X1.here hx rfl (hb hby d7_13) ?_
        exact k
      exact fun t k => pre5 t (by rw [show (own_j7_6_0 w_endedUnclaimed_r0) = (0 : Int32) from (if_neg hc6_3)] at k; exact k)
  obtain ⟨fs, hr, hrun, hended, hW, hsame⟩ := X1.leave (v := some (.int (nar .boolean (own_j7_6_0 w_endedUnclaimed_r0)))) (fun h => by rw [Bd.returns] at h; cases h)
  refine ⟨_, _, pre6 _ ?_, hrun, hended, _, _, rfl, ?_, ⟨_, rfl⟩, hW, hsame.mono (by decide) (by decide)⟩
  · show Steps p.tables e below (T1.setTop (mkF m 14 #[.val (.ref r0)] [(.int (own_j7_6_0 w_endedUnclaimed_r0))])) _
    exact retN X1 hx (t := .boolean) Bd.returns (by simp) (hb hby d7_14) hr
  · show Q7 Z r0 w_endedUnclaimed_r0 h0 n0 _ T1.heap _
    rw [e1]
    exact ⟨rfl, N0, rfl⟩
def Q10 (Z : State) (r0 : Addr) (w_endedUnclaimed_r0 : Int64) (h0 : Heap) (n0 : Nat) (v : Option Value) (h : Heap) (L : List Loc) : Prop := v = none ∧ Fr n0 L ∧ Keep h0 h [r0] ∧ Fld Z h r0 "com/example/fetchwright/fetchwright/service/Provenance" "endedUnclaimed" "J" (.long (w_endedUnclaimed_r0 + (1 : Int64))) ∧ Exa Z h r0 "com/example/fetchwright/fetchwright/service/Provenance"
theorem ef_10 (m : MethodId) (x0 : Addr) : entryFrame m #[(.ref x0)] 1 = mkF m 0 #[.val (.ref x0)] [] := by first | (simp [entryFrame, mkF, argsToLocals, Value.category]; done) | rfl
set_option maxRecDepth 65536 in
set_option maxHeartbeats 40000000 in
theorem rm10 (l : Launch) (Z : State) (a0 : Array Value) (hw : ∀ d ∈ tables_1, d.before a0 Z = true) (ws : List Jvm.Cond) (r0 : Addr) (w_endedUnclaimed_r0 : Int64) (h0 : Heap) (n0 : Nat) (Z0 : n0 ≤ h0.size) (F_endedUnclaimed_r0 : Fld Z h0 r0 "com/example/fetchwright/fetchwright/service/Provenance" "endedUnclaimed" "J" (.long w_endedUnclaimed_r0)) (E_r0 : Exa Z h0 r0 "com/example/fetchwright/fetchwright/service/Provenance") (g_r0 : n0 ≤ r0) :
    MetFree l (⟨"com/example/fetchwright/fetchwright/service/Provenance", "endedUnclaimed", "()V"⟩ : MethodName) (head1 (Jvm.Cond.code (⟨"com/example/fetchwright/fetchwright/service/Provenance", "endedUnclaimed", "()V"⟩ : MethodName) prog_12_method_4_code 1 none :: ws) ({ frames := 0, cells := 0, slots := 0, locals := 0 } : Room)) (fun a U => a = #[(.ref r0)] ∧ Z.Warmed39 U.vm ∧ U.heap = h0) (fun _ _ _ _ _ => True) (fun _ U o U' => ∃ v L, o = .returned v ∧ Q10 Z r0 w_endedUnclaimed_r0 h0 n0 v U'.heap L ∧ FrameEnd U o U' L ({ frames := 0, cells := 0, slots := 0, locals := 0 } : Room).cells ({ frames := 0, cells := 0, slots := 0, locals := 0 } : Room).slots) := by
  refine MetFree.of_bodySF (plainFor_of_name pn_3) hisR ?_
  intro p e s m args below meth c s₁ Bd hml0 hP hK
  obtain ⟨rfl, hZ, hh⟩ := hP
  have hx := Bd.exec
  have hby := Bd.bytes
  have hml : c.maxLocals = 1 := hml0
  have hown : s.vm.findClass "com/example/fetchwright/fetchwright/service/Provenance" = some m.cls := findClass_of_methodNamed Bd.named
  have hnm := (name_of_methodNamed Bd.named Bd.method).1
  have X0 : Stand p l e ({ frames := 0, cells := 0, slots := 0, locals := 0 } : Room) s m #[(.ref r0)] below meth c s₁ [] 0 0 := Stand.of_body Bd
  have e0 : s₁.heap = h0 := by rw [← hh, Bd.state]; rfl
  have N0 := Fr.nil n0
  have pre0 : ∀ t, Steps p.tables e below (s₁.setTop (mkF m 0 #[.val (.ref r0)] [])) t → Steps p.tables e below (s₁.setTop (entryFrame m #[(.ref r0)] 1)) t := fun t k => castTop (ef_10 m r0) k
  obtain ⟨T1, X1, e1, st1⟩ := getF X0 hx hZ hown (host := "") (Or.inl (hw _ (List.mem_of_getElem? (i := 53) rfl))) Via.refl e0 F_endedUnclaimed_r0 (g := (mkF m 2 #[.val (.ref r0)] [(.ref r0), (.ref r0)])) rfl rfl (hb hby d10_2)
  obtain ⟨T2, h2, X2, e2, W2, st2⟩ := putF X1 hx hZ hown (host := "") (Or.inl (hw _ (List.mem_of_getElem? (i := 53) rfl))) Via.refl e1 F_endedUnclaimed_r0 E_r0 (Or.inl (hw _ (List.mem_of_getElem? (i := 54) rfl))) (hw _ (List.mem_of_getElem? (i := 1) rfl)) (ty := .long) (by decide) rfl rfl (g := (mkF m 7 #[.val (.ref r0)] [(.long (w_endedUnclaimed_r0 + (1 : Int64))), (.ref r0)])) rfl rfl (hb hby d10_7)
  have N2 := Fr.snoc X2 N0 g_r0
  have K3 : Keep h0 h2 [r0] := (Keep.refl h0 [r0]).wr W2 (Or.inl (List.mem_of_getElem? (i := 0) rfl))
  have F2 := F_endedUnclaimed_r0.same W2
  have pre4 : ∀ t, Steps p.tables e below (T2.setTop (mkF m 10 #[.val (.ref r0)] [])) t → Steps p.tables e below (s₁.setTop (entryFrame m #[(.ref r0)] 1)) t := by
    intro t k
    refine pre0 _ ?_
    show Steps p.tables e below (s₁.setTop (mkF m 0 #[.val (.ref r0)] [])) _
    refine XS.aloadN X0.here hx rfl (hb hby d10_0) rfl rfl ?_
    show Steps p.tables e below (s₁.setTop (mkF m 1 #[.val (.ref r0)] [(.ref r0)])) _
    refine XS.dup X0.here hx rfl (hb hby d10_1) rfl rfl ?_
    show Steps p.tables e below (s₁.setTop (mkF m 2 #[.val (.ref r0)] [(.ref r0), (.ref r0)])) _
    refine st1 _ ?_
    show Steps p.tables e below (T1.setTop (mkF m 5 #[.val (.ref r0)] [(.long w_endedUnclaimed_r0), (.ref r0)])) _
    refine XS.lconst X1.here hx rfl (hb hby d10_5) ?_
    show Steps p.tables e below (T1.setTop (mkF m 6 #[.val (.ref r0)] [(.long (1 : Int64)), (.long w_endedUnclaimed_r0), (.ref r0)])) _
    refine XS.ladd X1.here hx rfl (hb hby d10_6) rfl ?_
    show Steps p.tables e below (T1.setTop (mkF m 7 #[.val (.ref r0)] [(.long (w_endedUnclaimed_r0 + (1 : Int64))), (.ref r0)])) _
    refine st2 _ ?_
    exact k
  have f5 := (E_r0.wr W2)
  obtain ⟨fs, hr, hrun, hended, hW, hsame⟩ := X2.leave (v := none) (fun _ => rfl)
  refine ⟨_, _, pre4 _ ?_, hrun, hended, _, _, rfl, ?_, ⟨_, rfl⟩, hW, hsame.mono (by decide) (by decide)⟩
  · show Steps p.tables e below (T2.setTop (mkF m 10 #[.val (.ref r0)] [])) _
    exact X2.returnOut hx Bd.returns (hb hby d10_10) hr
  · show Q10 Z r0 w_endedUnclaimed_r0 h0 n0 _ T2.heap _
    rw [e2]
    exact ⟨rfl, N2, K3, F2, f5⟩
def Q9 (Z : State) (r0 : Addr) (w_endedUnclaimed_r0 : Int64) (h0 : Heap) (n0 : Nat) (v : Option Value) (h : Heap) (L : List Loc) : Prop := v = none ∧ Fr n0 L ∧ Keep h0 h [r0] ∧ Fld Z h r0 "com/example/fetchwright/fetchwright/service/Provenance" "endedUnclaimed" "J" (.long (w_endedUnclaimed_r0 - (1 : Int64))) ∧ Exa Z h r0 "com/example/fetchwright/fetchwright/service/Provenance"
theorem ef_9 (m : MethodId) (x0 : Addr) : entryFrame m #[(.ref x0)] 1 = mkF m 0 #[.val (.ref x0)] [] := by first | (simp [entryFrame, mkF, argsToLocals, Value.category]; done) | rfl
set_option maxRecDepth 65536 in
set_option maxHeartbeats 40000000 in
theorem rm9 (l : Launch) (Z : State) (a0 : Array Value) (hw : ∀ d ∈ tables_1, d.before a0 Z = true) (ws : List Jvm.Cond) (r0 : Addr) (w_endedUnclaimed_r0 : Int64) (h0 : Heap) (n0 : Nat) (Z0 : n0 ≤ h0.size) (F_endedUnclaimed_r0 : Fld Z h0 r0 "com/example/fetchwright/fetchwright/service/Provenance" "endedUnclaimed" "J" (.long w_endedUnclaimed_r0)) (E_r0 : Exa Z h0 r0 "com/example/fetchwright/fetchwright/service/Provenance") (g_r0 : n0 ≤ r0) :
    MetFree l (⟨"com/example/fetchwright/fetchwright/service/Provenance", "endedLoadClaimed", "()V"⟩ : MethodName) (head1 (Jvm.Cond.code (⟨"com/example/fetchwright/fetchwright/service/Provenance", "endedLoadClaimed", "()V"⟩ : MethodName) prog_12_method_5_code 1 none :: ws) ({ frames := 0, cells := 0, slots := 0, locals := 0 } : Room)) (fun a U => a = #[(.ref r0)] ∧ Z.Warmed39 U.vm ∧ U.heap = h0) (fun _ _ _ _ _ => True) (fun _ U o U' => ∃ v L, o = .returned v ∧ Q9 Z r0 w_endedUnclaimed_r0 h0 n0 v U'.heap L ∧ FrameEnd U o U' L ({ frames := 0, cells := 0, slots := 0, locals := 0 } : Room).cells ({ frames := 0, cells := 0, slots := 0, locals := 0 } : Room).slots) := by
  refine MetFree.of_bodySF (plainFor_of_name pn_3) hisR ?_
  intro p e s m args below meth c s₁ Bd hml0 hP hK
  obtain ⟨rfl, hZ, hh⟩ := hP
  have hx := Bd.exec
  have hby := Bd.bytes
  have hml : c.maxLocals = 1 := hml0
  have hown : s.vm.findClass "com/example/fetchwright/fetchwright/service/Provenance" = some m.cls := findClass_of_methodNamed Bd.named
  have hnm := (name_of_methodNamed Bd.named Bd.method).1
  have X0 : Stand p l e ({ frames := 0, cells := 0, slots := 0, locals := 0 } : Room) s m #[(.ref r0)] below meth c s₁ [] 0 0 := Stand.of_body Bd
  have e0 : s₁.heap = h0 := by rw [← hh, Bd.state]; rfl
  have N0 := Fr.nil n0
  have pre0 : ∀ t, Steps p.tables e below (s₁.setTop (mkF m 0 #[.val (.ref r0)] [])) t → Steps p.tables e below (s₁.setTop (entryFrame m #[(.ref r0)] 1)) t := fun t k => castTop (ef_9 m r0) k
  obtain ⟨T1, X1, e1, st1⟩ := getF X0 hx hZ hown (host := "") (Or.inl (hw _ (List.mem_of_getElem? (i := 53) rfl))) Via.refl e0 F_endedUnclaimed_r0 (g := (mkF m 2 #[.val (.ref r0)] [(.ref r0), (.ref r0)])) rfl rfl (hb hby d9_2)
  obtain ⟨T2, h2, X2, e2, W2, st2⟩ := putF X1 hx hZ hown (host := "") (Or.inl (hw _ (List.mem_of_getElem? (i := 53) rfl))) Via.refl e1 F_endedUnclaimed_r0 E_r0 (Or.inl (hw _ (List.mem_of_getElem? (i := 54) rfl))) (hw _ (List.mem_of_getElem? (i := 1) rfl)) (ty := .long) (by decide) rfl rfl (g := (mkF m 7 #[.val (.ref r0)] [(.long (w_endedUnclaimed_r0 - (1 : Int64))), (.ref r0)])) rfl rfl (hb hby d9_7)
  have N2 := Fr.snoc X2 N0 g_r0
  have K3 : Keep h0 h2 [r0] := (Keep.refl h0 [r0]).wr W2 (Or.inl (List.mem_of_getElem? (i := 0) rfl))
  have F2 := F_endedUnclaimed_r0.same W2
  have pre4 : ∀ t, Steps p.tables e below (T2.setTop (mkF m 10 #[.val (.ref r0)] [])) t → Steps p.tables e below (s₁.setTop (entryFrame m #[(.ref r0)] 1)) t := by
    intro t k
    refine pre0 _ ?_
    show Steps p.tables e below (s₁.setTop (mkF m 0 #[.val (.ref r0)] [])) _
    refine XS.aloadN X0.here hx rfl (hb hby d9_0) rfl rfl ?_
    show Steps p.tables e below (s₁.setTop (mkF m 1 #[.val (.ref r0)] [(.ref r0)])) _
    refine XS.dup X0.here hx rfl (hb hby d9_1) rfl rfl ?_
    show Steps p.tables e below (s₁.setTop (mkF m 2 #[.val (.ref r0)] [(.ref r0), (.ref r0)])) _
    refine st1 _ ?_
    show Steps p.tables e below (T1.setTop (mkF m 5 #[.val (.ref r0)] [(.long w_endedUnclaimed_r0), (.ref r0)])) _
    refine XS.lconst X1.here hx rfl (hb hby d9_5) ?_
    show Steps p.tables e below (T1.setTop (mkF m 6 #[.val (.ref r0)] [(.long (1 : Int64)), (.long w_endedUnclaimed_r0), (.ref r0)])) _
    refine XS.lsub X1.here hx rfl (hb hby d9_6) rfl ?_
    show Steps p.tables e below (T1.setTop (mkF m 7 #[.val (.ref r0)] [(.long (w_endedUnclaimed_r0 - (1 : Int64))), (.ref r0)])) _
    refine st2 _ ?_
    exact k
  have f5 := (E_r0.wr W2)
  obtain ⟨fs, hr, hrun, hended, hW, hsame⟩ := X2.leave (v := none) (fun _ => rfl)
  refine ⟨_, _, pre4 _ ?_, hrun, hended, _, _, rfl, ?_, ⟨_, rfl⟩, hW, hsame.mono (by decide) (by decide)⟩
  · show Steps p.tables e below (T2.setTop (mkF m 10 #[.val (.ref r0)] [])) _
    exact X2.returnOut hx Bd.returns (hb hby d9_10) hr
  · show Q9 Z r0 w_endedUnclaimed_r0 h0 n0 _ T2.heap _
    rw [e2]
    exact ⟨rfl, N2, K3, F2, f5⟩
def own_r8 (i2 : Int32) (i3 : Int32) : Int32 := (if (i2 &&& (3 : Int32)) = (1 : Int32) then (i3 + (1 : Int32)) else (if (i2 &&& (3 : Int32)) = (2 : Int32) then (i3 - (1 : Int32)) else i3))
def own_f8_endedUnclaimed (i2 : Int32) (w_endedUnclaimed_r1 : Int64) : Int64 := (if (i2 &&& (3 : Int32)) = (1 : Int32) then (w_endedUnclaimed_r1 + (1 : Int64)) else (if (i2 &&& (3 : Int32)) = (2 : Int32) then (w_endedUnclaimed_r1 - (1 : Int64)) else w_endedUnclaimed_r1))
def Q8 (Z : State) (r1 : Addr) (i2 : Int32) (i3 : Int32) (w_endedUnclaimed_r1 : Int64) (h0 : Heap) (n0 : Nat) (v : Option Value) (h : Heap) (L : List Loc) : Prop := v = some (.int (own_r8 i2 i3)) ∧ Fr n0 L ∧ Keep h0 h [r1] ∧ Exa Z h r1 "com/example/fetchwright/fetchwright/service/Provenance" ∧ Fld Z h r1 "com/example/fetchwright/fetchwright/service/Provenance" "endedUnclaimed" "J" (.long (own_f8_endedUnclaimed i2 w_endedUnclaimed_r1))
theorem ef_8 (m : MethodId) (x0 : Addr) (x1 : Int32) (x2 : Int32) : entryFrame m #[(.ref x0), (.int x1), (.int x2)] 4 = mkF m 0 #[.val (.ref x0), .val (.int x1), .val (.int x2), .unset] [] := by first | (simp [entryFrame, mkF, argsToLocals, Value.category]; done) | rfl
set_option maxRecDepth 65536 in
set_option maxHeartbeats 40000000 in
theorem rm8 (l : Launch) (Z : State) (a0 : Array Value) (hw : ∀ d ∈ tables_1, d.before a0 Z = true) (ws : List Jvm.Cond) (r1 : Addr) (i2 : Int32) (i3 : Int32) (w_endedUnclaimed_r1 : Int64) (h0 : Heap) (n0 : Nat) (Z0 : n0 ≤ h0.size) (F_endedUnclaimed_r1 : Fld Z h0 r1 "com/example/fetchwright/fetchwright/service/Provenance" "endedUnclaimed" "J" (.long w_endedUnclaimed_r1)) (E_r1 : Exa Z h0 r1 "com/example/fetchwright/fetchwright/service/Provenance") (g_r1 : n0 ≤ r1) :
    MetFree l (⟨"com/example/fetchwright/fetchwright/service/ProvenanceAwaitsReferencesPinLaw", "step", "(Lcom/example/fetchwright/fetchwright/service/Provenance;II)I"⟩ : MethodName) (head1 (Jvm.Cond.code (⟨"com/example/fetchwright/fetchwright/service/ProvenanceAwaitsReferencesPinLaw", "step", "(Lcom/example/fetchwright/fetchwright/service/Provenance;II)I"⟩ : MethodName) method_2_code 4 (some .int) :: ws) ({ frames := 1, cells := 0, slots := 0, locals := 12 } : Room)) (fun a U => a = #[(.ref r1), (.int i2), (.int i3)] ∧ Z.Warmed39 U.vm ∧ U.heap = h0) (fun _ _ _ _ _ => True) (fun _ U o U' => ∃ v L, o = .returned v ∧ Q8 Z r1 i2 i3 w_endedUnclaimed_r1 h0 n0 v U'.heap L ∧ FrameEnd U o U' L ({ frames := 1, cells := 0, slots := 0, locals := 12 } : Room).cells ({ frames := 1, cells := 0, slots := 0, locals := 12 } : Room).slots) := by
  refine MetFree.of_bodySF (plainFor_of_name pn_4) hisR ?_
  intro p e s m args below meth c s₁ Bd hml0 hP hK
  obtain ⟨rfl, hZ, hh⟩ := hP
  have hx := Bd.exec
  have hby := Bd.bytes
  have hml : c.maxLocals = 4 := hml0
  have hown : s.vm.findClass "com/example/fetchwright/fetchwright/service/ProvenanceAwaitsReferencesPinLaw" = some m.cls := findClass_of_methodNamed Bd.named
  have hnm := (name_of_methodNamed Bd.named Bd.method).1
  have X0 : Stand p l e ({ frames := 1, cells := 0, slots := 0, locals := 12 } : Room) s m #[(.ref r1), (.int i2), (.int i3)] below meth c s₁ [] 0 0 := Stand.of_body Bd
  have e0 : s₁.heap = h0 := by rw [← hh, Bd.state]; rfl
  have N0 := Fr.nil n0
  have pre0 : ∀ t, Steps p.tables e below (s₁.setTop (mkF m 0 #[.val (.ref r1), .val (.int i2), .val (.int i3), .unset] [])) t → Steps p.tables e below (s₁.setTop (entryFrame m #[(.ref r1), (.int i2), (.int i3)] 4)) t := fun t k => castTop (ef_8 m r1 i2 i3) k
  have pre1 : ∀ t, Steps p.tables e below (s₁.setTop (mkF m 6 #[.val (.ref r1), .val (.int i2), .val (.int i3), .val (.int (i2 &&& (3 : Int32)))] [(.int (1 : Int32)), (.int (i2 &&& (3 : Int32)))])) t → Steps p.tables e below (s₁.setTop (entryFrame m #[(.ref r1), (.int i2), (.int i3)] 4)) t := by
    intro t k
    refine pre0 _ ?_
    show Steps p.tables e below (s₁.setTop (mkF m 0 #[.val (.ref r1), .val (.int i2), .val (.int i3), .unset] [])) _
    refine XS.iloadN X0.here hx rfl (hb hby d8_0) rfl ?_
    show Steps p.tables e below (s₁.setTop (mkF m 1 #[.val (.ref r1), .val (.int i2), .val (.int i3), .unset] [(.int i2)])) _
    refine XS.iconst X0.here hx rfl (hb hby d8_1) ?_
    show Steps p.tables e below (s₁.setTop (mkF m 2 #[.val (.ref r1), .val (.int i2), .val (.int i3), .unset] [(.int (3 : Int32)), (.int i2)])) _
    refine XS.iand X0.here hx rfl (hb hby d8_2) rfl ?_
    show Steps p.tables e below (s₁.setTop (mkF m 3 #[.val (.ref r1), .val (.int i2), .val (.int i3), .unset] [(.int (i2 &&& (3 : Int32)))])) _
    refine XS.istoreN X0.here hx rfl (hb hby d8_3) rfl (l' := #[.val (.ref r1), .val (.int i2), .val (.int i3), .val (.int (i2 &&& (3 : Int32)))]) rfl ?_
    show Steps p.tables e below (s₁.setTop (mkF m 4 #[.val (.ref r1), .val (.int i2), .val (.int i3), .val (.int (i2 &&& (3 : Int32)))] [])) _
    refine XS.iloadN X0.here hx rfl (hb hby d8_4) rfl ?_
    show Steps p.tables e below (s₁.setTop (mkF m 5 #[.val (.ref r1), .val (.int i2), .val (.int i3), .val (.int (i2 &&& (3 : Int32)))] [(.int (i2 &&& (3 : Int32)))])) _
    refine XS.iconst X0.here hx rfl (hb hby d8_5) ?_
    exact k
  by_cases hc6_2 : (i2 &&& (3 : Int32)) = (1 : Int32)
  · obtain ⟨cq3, kq3, q3a, q3b, q3c⟩ := isOf hZ e0 E_r1
    obtain ⟨_, _, ⟨T3, L3, k3, n3⟩, -, X3, ⟨Lc3, hQ3, l3, y3, z3⟩, st3⟩ := X0.virtualBack hx (y := (⟨"com/example/fetchwright/fetchwright/service/Provenance", "endedUnclaimed", "()V"⟩ : MethodName)) (z := (⟨"com/example/fetchwright/fetchwright/service/Provenance", "endedUnclaimed", "()V"⟩ : MethodName)) hown (mvT hZ (hw _ (List.mem_of_getElem? (i := 64) rfl))) (mvT hZ (hw _ (List.mem_of_getElem? (i := 65) rfl))) (notFace_of_selects (args := #[]) (mvT hZ (hw _ (List.mem_of_getElem? (i := 67) rfl)))) (mvT hZ (hw _ (List.mem_of_getElem? (i := 67) rfl))) (mvT hZ (hw _ (List.mem_of_getElem? (i := 66) rfl))) (by decide) (backOf (W := 0) (rm10 l Z a0 hw [] r1 w_endedUnclaimed_r1 h0 n0 (Nat.le_trans Z0 (Keep.refl h0 [r1]).1) F_endedUnclaimed_r1 E_r1 g_r1) hZ (hw _ (List.mem_of_getElem? (i := 68) rfl)) (hw _ (List.mem_of_getElem? (i := 2) rfl)) (by decide) (by decide)) q3a q3c (g := (mkF m 10 #[.val (.ref r1), .val (.int i2), .val (.int i3), .val (.int (i2 &&& (3 : Int32)))] [(.ref r1)])) rfl (by rw [hml]; rfl) (Steps.refl _) (argsL := []) (rest := []) (lenOf pd_0 rfl) rfl (by show 2 * 0 + _ ≤ _; exact Nat.le_of_eq rfl) (hb hby d8_10) (fun _ _ => ⟨rfl, e0, (by decide : 0 + 0 ≤ _), (by decide : 0 + 0 ≤ _)⟩)
    dsimp only [Pt.U, Pt.locs, Pt.cells, Pt.slots] at X3 l3 y3 z3 st3 hQ3
    subst l3 y3 z3
    obtain ⟨rfl, Nq3, Kq3, f3_0, f3_1⟩ := hQ3
    have K4 : Keep h0 T3.heap [r1] := (Keep.refl h0 [r1]).trans Kq3 (allS (Or.inl (List.mem_of_getElem? (i := 0) rfl)) all0)
    have N3 := Fr.app N0 Nq3
    have pre5 : ∀ t, Steps p.tables e below (T3.setTop (mkF m 16 #[.val (.ref r1), .val (.int i2), .val (.int i3), .val (.int (i2 &&& (3 : Int32)))] [(.int (i3 + (1 : Int32)))])) t → Steps p.tables e below (s₁.setTop (entryFrame m #[(.ref r1), (.int i2), (.int i3)] 4)) t := by
      intro t k
      refine pre1 _ ?_
      show Steps p.tables e below (s₁.setTop (mkF m 6 #[.val (.ref r1), .val (.int i2), .val (.int i3), .val (.int (i2 &&& (3 : Int32)))] [(.int (1 : Int32)), (.int (i2 &&& (3 : Int32)))])) _
      refine XS.icmpNo X0.here hx rfl (hb hby d8_6) rfl (teq hc6_2).2 ?_
      show Steps p.tables e below (s₁.setTop (mkF m 9 #[.val (.ref r1), .val (.int i2), .val (.int i3), .val (.int (i2 &&& (3 : Int32)))] [])) _
      refine XS.aloadN X0.here hx rfl (hb hby d8_9) rfl rfl ?_
      show Steps p.tables e below (s₁.setTop (mkF m 10 #[.val (.ref r1), .val (.int i2), .val (.int i3), .val (.int (i2 &&& (3 : Int32)))] [(.ref r1)])) _
      refine st3.trans ?_
      show Steps p.tables e below (T3.setTop (mkF m 13 #[.val (.ref r1), .val (.int i2), .val (.int i3), .val (.int (i2 &&& (3 : Int32)))] [])) _
      refine XS.iloadN X3.here hx rfl (hb hby d8_13) rfl ?_
      show Steps p.tables e below (T3.setTop (mkF m 14 #[.val (.ref r1), .val (.int i2), .val (.int i3), .val (.int (i2 &&& (3 : Int32)))] [(.int i3)])) _
      refine XS.iconst X3.here hx rfl (hb hby d8_14) ?_
      show Steps p.tables e below (T3.setTop (mkF m 15 #[.val (.ref r1), .val (.int i2), .val (.int i3), .val (.int (i2 &&& (3 : Int32)))] [(.int (1 : Int32)), (.int i3)])) _
      refine XS.iadd X3.here hx rfl (hb hby d8_15) rfl ?_
      exact k
    obtain ⟨fs, hr, hrun, hended, hW, hsame⟩ := X3.leave (v := some (.int (i3 + (1 : Int32)))) (fun h => by rw [Bd.returns] at h; cases h)
    refine ⟨_, _, pre5 _ ?_, hrun, hended, _, _, rfl, ?_, ⟨_, rfl⟩, hW, hsame.mono (by decide) (by decide)⟩
    · show Steps p.tables e below (T3.setTop (mkF m 16 #[.val (.ref r1), .val (.int i2), .val (.int i3), .val (.int (i2 &&& (3 : Int32)))] [(.int (i3 + (1 : Int32)))])) _
      exact retI X3 hx Bd.returns (hb hby d8_16) hr
    · show Q8 Z r1 i2 i3 w_endedUnclaimed_r1 h0 n0 _ T3.heap _
      exact ⟨congrArg (fun z => some (Value.int z)) (show (own_r8 i2 i3) = (i3 + (1 : Int32)) from (if_pos hc6_2)).symm, N3, K4, f3_1, (by rw [show (own_f8_endedUnclaimed i2 w_endedUnclaimed_r1) = (w_endedUnclaimed_r1 + (1 : Int64)) from (if_pos hc6_2)]; exact f3_0)⟩
  · have pre6 : ∀ t, Steps p.tables e below (s₁.setTop (mkF m 19 #[.val (.ref r1), .val (.int i2), .val (.int i3), .val (.int (i2 &&& (3 : Int32)))] [(.int (2 : Int32)), (.int (i2 &&& (3 : Int32)))])) t → Steps p.tables e below (s₁.setTop (entryFrame m #[(.ref r1), (.int i2), (.int i3)] 4)) t := by
      intro t k
      refine pre1 _ ?_
      show Steps p.tables e below (s₁.setTop (mkF m 6 #[.val (.ref r1), .val (.int i2), .val (.int i3), .val (.int (i2 &&& (3 : Int32)))] [(.int (1 : Int32)), (.int (i2 &&& (3 : Int32)))])) _
      refine XS.icmpYes X0.here hx rfl (pc0 := 6) (pc' := 17) rfl (hb hby d8_6) rfl (feq hc6_2).2 (by decide) (by decide) ?_
      show Steps p.tables e below (s₁.setTop (mkF m 17 #[.val (.ref r1), .val (.int i2), .val (.int i3), .val (.int (i2 &&& (3 : Int32)))] [])) _
      refine XS.iloadN X0.here hx rfl (hb hby d8_17) rfl ?_
      show Steps p.tables e below (s₁.setTop (mkF m 18 #[.val (.ref r1), .val (.int i2), .val (.int i3), .val (.int (i2 &&& (3 : Int32)))] [(.int (i2 &&& (3 : Int32)))])) _
      refine XS.iconst X0.here hx rfl (hb hby d8_18) ?_
      exact k
    by_cases hc19_7 : (i2 &&& (3 : Int32)) = (2 : Int32)
    · obtain ⟨cq8, kq8, q8a, q8b, q8c⟩ := isOf hZ e0 E_r1
      obtain ⟨_, _, ⟨T8, L8, k8, n8⟩, -, X8, ⟨Lc8, hQ8, l8, y8, z8⟩, st8⟩ := X0.virtualBack hx (y := (⟨"com/example/fetchwright/fetchwright/service/Provenance", "endedLoadClaimed", "()V"⟩ : MethodName)) (z := (⟨"com/example/fetchwright/fetchwright/service/Provenance", "endedLoadClaimed", "()V"⟩ : MethodName)) hown (mvT hZ (hw _ (List.mem_of_getElem? (i := 59) rfl))) (mvT hZ (hw _ (List.mem_of_getElem? (i := 60) rfl))) (notFace_of_selects (args := #[]) (mvT hZ (hw _ (List.mem_of_getElem? (i := 62) rfl)))) (mvT hZ (hw _ (List.mem_of_getElem? (i := 62) rfl))) (mvT hZ (hw _ (List.mem_of_getElem? (i := 61) rfl))) (by decide) (backOf (W := 0) (rm9 l Z a0 hw [] r1 w_endedUnclaimed_r1 h0 n0 (Nat.le_trans Z0 (Keep.refl h0 [r1]).1) F_endedUnclaimed_r1 E_r1 g_r1) hZ (hw _ (List.mem_of_getElem? (i := 63) rfl)) (hw _ (List.mem_of_getElem? (i := 2) rfl)) (by decide) (by decide)) q8a q8c (g := (mkF m 23 #[.val (.ref r1), .val (.int i2), .val (.int i3), .val (.int (i2 &&& (3 : Int32)))] [(.ref r1)])) rfl (by rw [hml]; rfl) (Steps.refl _) (argsL := []) (rest := []) (lenOf pd_0 rfl) rfl (by show 2 * 0 + _ ≤ _; exact Nat.le_of_eq rfl) (hb hby d8_23) (fun _ _ => ⟨rfl, e0, (by decide : 0 + 0 ≤ _), (by decide : 0 + 0 ≤ _)⟩)
      dsimp only [Pt.U, Pt.locs, Pt.cells, Pt.slots] at X8 l8 y8 z8 st8 hQ8
      subst l8 y8 z8
      obtain ⟨rfl, Nq8, Kq8, f8_0, f8_1⟩ := hQ8
      have K9 : Keep h0 T8.heap [r1] := (Keep.refl h0 [r1]).trans Kq8 (allS (Or.inl (List.mem_of_getElem? (i := 0) rfl)) all0)
      have N8 := Fr.app N0 Nq8
      have pre10 : ∀ t, Steps p.tables e below (T8.setTop (mkF m 29 #[.val (.ref r1), .val (.int i2), .val (.int i3), .val (.int (i2 &&& (3 : Int32)))] [(.int (i3 - (1 : Int32)))])) t → Steps p.tables e below (s₁.setTop (entryFrame m #[(.ref r1), (.int i2), (.int i3)] 4)) t := by
        intro t k
        refine pre6 _ ?_
        show Steps p.tables e below (s₁.setTop (mkF m 19 #[.val (.ref r1), .val (.int i2), .val (.int i3), .val (.int (i2 &&& (3 : Int32)))] [(.int (2 : Int32)), (.int (i2 &&& (3 : Int32)))])) _
        refine XS.icmpNo X0.here hx rfl (hb hby d8_19) rfl (teq hc19_7).2 ?_
        show Steps p.tables e below (s₁.setTop (mkF m 22 #[.val (.ref r1), .val (.int i2), .val (.int i3), .val (.int (i2 &&& (3 : Int32)))] [])) _
        refine XS.aloadN X0.here hx rfl (hb hby d8_22) rfl rfl ?_
        show Steps p.tables e below (s₁.setTop (mkF m 23 #[.val (.ref r1), .val (.int i2), .val (.int i3), .val (.int (i2 &&& (3 : Int32)))] [(.ref r1)])) _
        refine st8.trans ?_
        show Steps p.tables e below (T8.setTop (mkF m 26 #[.val (.ref r1), .val (.int i2), .val (.int i3), .val (.int (i2 &&& (3 : Int32)))] [])) _
        refine XS.iloadN X8.here hx rfl (hb hby d8_26) rfl ?_
        show Steps p.tables e below (T8.setTop (mkF m 27 #[.val (.ref r1), .val (.int i2), .val (.int i3), .val (.int (i2 &&& (3 : Int32)))] [(.int i3)])) _
        refine XS.iconst X8.here hx rfl (hb hby d8_27) ?_
        show Steps p.tables e below (T8.setTop (mkF m 28 #[.val (.ref r1), .val (.int i2), .val (.int i3), .val (.int (i2 &&& (3 : Int32)))] [(.int (1 : Int32)), (.int i3)])) _
        refine XS.isub X8.here hx rfl (hb hby d8_28) rfl ?_
        exact k
      obtain ⟨fs, hr, hrun, hended, hW, hsame⟩ := X8.leave (v := some (.int (i3 - (1 : Int32)))) (fun h => by rw [Bd.returns] at h; cases h)
      refine ⟨_, _, pre10 _ ?_, hrun, hended, _, _, rfl, ?_, ⟨_, rfl⟩, hW, hsame.mono (by decide) (by decide)⟩
      · show Steps p.tables e below (T8.setTop (mkF m 29 #[.val (.ref r1), .val (.int i2), .val (.int i3), .val (.int (i2 &&& (3 : Int32)))] [(.int (i3 - (1 : Int32)))])) _
        exact retI X8 hx Bd.returns (hb hby d8_29) hr
      · show Q8 Z r1 i2 i3 w_endedUnclaimed_r1 h0 n0 _ T8.heap _
        exact ⟨congrArg (fun z => some (Value.int z)) (show (own_r8 i2 i3) = (i3 - (1 : Int32)) from ((if_neg hc6_2).trans (if_pos hc19_7))).symm, N8, K9, f8_1, (by rw [show (own_f8_endedUnclaimed i2 w_endedUnclaimed_r1) = (w_endedUnclaimed_r1 - (1 : Int64)) from ((if_neg hc6_2).trans (if_pos hc19_7))]; exact f8_0)⟩
    · have pre11 : ∀ t, Steps p.tables e below (s₁.setTop (mkF m 31 #[.val (.ref r1), .val (.int i2), .val (.int i3), .val (.int (i2 &&& (3 : Int32)))] [(.int i3)])) t → Steps p.tables e below (s₁.setTop (entryFrame m #[(.ref r1), (.int i2), (.int i3)] 4)) t := by
        intro t k
        refine pre6 _ ?_
        show Steps p.tables e below (s₁.setTop (mkF m 19 #[.val (.ref r1), .val (.int i2), .val (.int i3), .val (.int (i2 &&& (3 : Int32)))] [(.int (2 : Int32)), (.int (i2 &&& (3 : Int32)))])) _
        refine XS.icmpYes X0.here hx rfl (pc0 := 19) (pc' := 30) rfl (hb hby d8_19) rfl (feq hc19_7).2 (by decide) (by decide) ?_
        show Steps p.tables e below (s₁.setTop (mkF m 30 #[.val (.ref r1), .val (.int i2), .val (.int i3), .val (.int (i2 &&& (3 : Int32)))] [])) _
        refine XS.iloadN X0.here hx rfl (hb hby d8_30) rfl ?_
        exact k
      obtain ⟨fs, hr, hrun, hended, hW, hsame⟩ := X0.leave (v := some (.int i3)) (fun h => by rw [Bd.returns] at h; cases h)
      refine ⟨_, _, pre11 _ ?_, hrun, hended, _, _, rfl, ?_, ⟨_, rfl⟩, hW, hsame.mono (by decide) (by decide)⟩
      · show Steps p.tables e below (s₁.setTop (mkF m 31 #[.val (.ref r1), .val (.int i2), .val (.int i3), .val (.int (i2 &&& (3 : Int32)))] [(.int i3)])) _
        exact retI X0 hx Bd.returns (hb hby d8_31) hr
      · show Q8 Z r1 i2 i3 w_endedUnclaimed_r1 h0 n0 _ s₁.heap _
        rw [e0]
        exact ⟨congrArg (fun z => some (Value.int z)) (show (own_r8 i2 i3) = i3 from ((if_neg hc6_2).trans (if_neg hc19_7))).symm, N0, (Keep.refl h0 [r1]), E_r1, (by rw [show (own_f8_endedUnclaimed i2 w_endedUnclaimed_r1) = w_endedUnclaimed_r1 from ((if_neg hc6_2).trans (if_neg hc19_7))]; exact F_endedUnclaimed_r1)⟩
def own_j0_12_0  : Int32 := (if (nar .boolean (own_j7_6_0 (0 : Int64))) = (0 : Int32) then (1 : Int32) else (0 : Int32))
def own_j0_39_0 (i1 : Int32) : Int32 := (if (0 : Int32) < (own_r8 i1 (0 : Int32)) then (1 : Int32) else (0 : Int32))
def own_j0_31_0 (i1 : Int32) : Int32 := (if own_j0_12_0 = (0 : Int32) then (0 : Int32) else (if (nar .boolean (own_j7_6_0 (own_f8_endedUnclaimed i1 (0 : Int64)))) = (own_j0_39_0 i1) then (1 : Int32) else (0 : Int32)))
def own_j0_74_0 (i1 : Int32) : Int32 := (if (0 : Int32) < (own_r8 ((i1.toUInt32 >>> ((2 : Int32) &&& 31).toUInt32).toInt32) (own_r8 i1 (0 : Int32))) then (1 : Int32) else (0 : Int32))
def own_j0_66_0 (i1 : Int32) : Int32 := (if (own_j0_31_0 i1) = (0 : Int32) then (0 : Int32) else (if (nar .boolean (own_j7_6_0 (own_f8_endedUnclaimed ((i1.toUInt32 >>> ((2 : Int32) &&& 31).toUInt32).toInt32) (own_f8_endedUnclaimed i1 (0 : Int64))))) = (own_j0_74_0 i1) then (1 : Int32) else (0 : Int32)))
def own_j0_109_0 (i1 : Int32) : Int32 := (if (0 : Int32) < (own_r8 ((i1.toUInt32 >>> ((4 : Int32) &&& 31).toUInt32).toInt32) (own_r8 ((i1.toUInt32 >>> ((2 : Int32) &&& 31).toUInt32).toInt32) (own_r8 i1 (0 : Int32)))) then (1 : Int32) else (0 : Int32))
def own_j0_101_0 (i1 : Int32) : Int32 := (if (own_j0_66_0 i1) = (0 : Int32) then (0 : Int32) else (if (nar .boolean (own_j7_6_0 (own_f8_endedUnclaimed ((i1.toUInt32 >>> ((4 : Int32) &&& 31).toUInt32).toInt32) (own_f8_endedUnclaimed ((i1.toUInt32 >>> ((2 : Int32) &&& 31).toUInt32).toInt32) (own_f8_endedUnclaimed i1 (0 : Int64)))))) = (own_j0_109_0 i1) then (1 : Int32) else (0 : Int32)))
def own_j0_145_0 (i1 : Int32) : Int32 := (if (0 : Int32) < (own_r8 ((i1.toUInt32 >>> ((6 : Int32) &&& 31).toUInt32).toInt32) (own_r8 ((i1.toUInt32 >>> ((4 : Int32) &&& 31).toUInt32).toInt32) (own_r8 ((i1.toUInt32 >>> ((2 : Int32) &&& 31).toUInt32).toInt32) (own_r8 i1 (0 : Int32))))) then (1 : Int32) else (0 : Int32))
def own_j0_137_0 (i1 : Int32) : Int32 := (if (own_j0_101_0 i1) = (0 : Int32) then (0 : Int32) else (if (nar .boolean (own_j7_6_0 (own_f8_endedUnclaimed ((i1.toUInt32 >>> ((6 : Int32) &&& 31).toUInt32).toInt32) (own_f8_endedUnclaimed ((i1.toUInt32 >>> ((4 : Int32) &&& 31).toUInt32).toInt32) (own_f8_endedUnclaimed ((i1.toUInt32 >>> ((2 : Int32) &&& 31).toUInt32).toInt32) (own_f8_endedUnclaimed i1 (0 : Int64))))))) = (own_j0_145_0 i1) then (1 : Int32) else (0 : Int32)))
def Q0 (Z : State) (i1 : Int32) (h0 : Heap) (n0 : Nat) (v : Option Value) (h : Heap) (L : List Loc) : Prop := v = some (.int (nar .boolean (own_j0_137_0 i1))) ∧ Fr n0 L
theorem ef_0 (m : MethodId) (x0 : Int32) : entryFrame m #[(.int x0)] maxLocals = mkF m 0 #[.val (.int x0), .unset, .unset, .unset] [] := by first | (simp [entryFrame, mkF, argsToLocals, Value.category, maxLocals]; done) | rfl
set_option maxRecDepth 65536 in
set_option maxHeartbeats 40000000 in
theorem rm0 (l : Launch) (Z : State) (a0 : Array Value) (hw : ∀ d ∈ tables_1, d.before a0 Z = true) (ws : List Jvm.Cond) (i1 : Int32) (h0 : Heap) (n0 : Nat) (Z0 : n0 ≤ h0.size) :
    MetFree l x (head1 (Jvm.Cond.code x code maxLocals ret :: ws) room_1) (fun a U => a = #[(.int i1)] ∧ Z.Warmed39 U.vm ∧ U.heap = h0) (fun _ _ _ _ _ => True) (fun _ U o U' => ∃ v L, o = .returned v ∧ Q0 Z i1 h0 n0 v U'.heap L ∧ FrameEnd U o U' L room_1.cells room_1.slots) := by
  refine MetFree.of_bodySF (plainFor_of_name pn_4) hisR ?_
  intro p e s m args below meth c s₁ Bd hml0 hP hK
  obtain ⟨rfl, hZ, hh⟩ := hP
  have hx := Bd.exec
  have hby := Bd.bytes
  have hml : c.maxLocals = 4 := hml0
  have hown : s.vm.findClass "com/example/fetchwright/fetchwright/service/ProvenanceAwaitsReferencesPinLaw" = some m.cls := findClass_of_methodNamed Bd.named
  have hnm := (name_of_methodNamed Bd.named Bd.method).1
  have X0 : Stand p l e room_1 s m #[(.int i1)] below meth c s₁ [] 0 0 := Stand.of_body Bd
  have e0 : s₁.heap = h0 := by rw [← hh, Bd.state]; rfl
  have N0 := Fr.nil n0
  have pre0 : ∀ t, Steps p.tables e below (s₁.setTop (mkF m 0 #[.val (.int i1), .unset, .unset, .unset] [])) t → Steps p.tables e below (s₁.setTop (entryFrame m #[(.int i1)] maxLocals)) t := fun t k => castTop (ef_0 m i1) k
  obtain ⟨T1, h1, X1, e1, E1, A1, D1, -, st1⟩ := newO X0 hx hZ hown (hw _ (List.mem_of_getElem? (i := 0) rfl)) (hw _ (List.mem_of_getElem? (i := 1) rfl)) (hw _ (List.mem_of_getElem? (i := 2) rfl)) e0 (g := (mkF m 0 #[.val (.int i1), .unset, .unset, .unset] [])) rfl (hb hby at_0) (by decide) (by decide)
  obtain ⟨b1, g1⟩ : ∃ z, z = h0.size := ⟨_, rfl⟩
  rw [← g1] at A1 D1 st1
  have sz_b1 : h0.size ≤ b1 := Nat.le_trans (Keep.refl h0 []).1 (Nat.le_of_eq g1.symm)
  have K2 : Keep h0 h1 [] := (Keep.refl h0 []).ext E1
  have FloadsOfInstances_1 : Fld Z h1 b1 "com/example/fetchwright/fetchwright/service/Provenance" "loadsOfInstances" "Ljava/util/Map;" .null := D1 (Or.inr (hw _ (List.mem_of_getElem? (i := 32) rfl))) (ty := (.object "java/util/Map")) (by decide)
  have Freferences_1 : Fld Z h1 b1 "com/example/fetchwright/fetchwright/service/Provenance" "references" "Ljava/util/Map;" .null := D1 (Or.inr (hw _ (List.mem_of_getElem? (i := 34) rfl))) (ty := (.object "java/util/Map")) (by decide)
  have FcollectionsByRole_1 : Fld Z h1 b1 "com/example/fetchwright/fetchwright/service/Provenance" "collectionsByRole" "Ljava/util/Map;" .null := D1 (Or.inr (hw _ (List.mem_of_getElem? (i := 47) rfl))) (ty := (.object "java/util/Map")) (by decide)
  have FendedUnclaimed_1 : Fld Z h1 b1 "com/example/fetchwright/fetchwright/service/Provenance" "endedUnclaimed" "J" (.long (0 : Int64)) := D1 (Or.inl (hw _ (List.mem_of_getElem? (i := 54) rfl))) (ty := .long) (by decide)
  obtain ⟨_, _, ⟨T3, L3, k3, n3⟩, -, X3, ⟨Lc3, hQ3, l3, y3, z3⟩, st3⟩ := X1.specialBack hx (y := (⟨"com/example/fetchwright/fetchwright/service/Provenance", "<init>", "()V"⟩ : MethodName)) rfl hown (mvT hZ (hw _ (List.mem_of_getElem? (i := 3) rfl))) (mvT hZ (hw _ (List.mem_of_getElem? (i := 4) rfl))) (mvT hZ (hw _ (List.mem_of_getElem? (i := 5) rfl))) (by decide) (backOf (W := 1) (rm1 l Z a0 hw [] b1 (.long (0 : Int64)) (.null) (.null) (.null) h1 n0 (Nat.le_trans Z0 K2.1) FendedUnclaimed_1 A1 FloadsOfInstances_1 (Nat.le_trans Z0 sz_b1) Freferences_1 FcollectionsByRole_1) hZ (hw _ (List.mem_of_getElem? (i := 5) rfl)) (hw _ (List.mem_of_getElem? (i := 2) rfl)) (by decide) (by decide)) (g := (mkF m 4 #[.val (.int i1), .unset, .unset, .unset] [(.ref b1), (.ref b1)])) rfl (by rw [hml]; rfl) (Steps.refl _) (a := b1) (argsL := []) (rest := [(.ref b1)]) (lenOf pd_0 rfl) rfl (by show 2 * 0 + _ ≤ _; exact Nat.le_of_eq rfl) (hb hby at_4) (fun _ _ => ⟨rfl, e1, (by decide : 1 + 5 ≤ _), (by decide : 4 + 148 ≤ _)⟩)
  dsimp only [Pt.U, Pt.locs, Pt.cells, Pt.slots] at X3 l3 y3 z3 st3 hQ3
  subst l3 y3 z3
  obtain ⟨rfl, Nq3, Kq3, f3_0, f3_1⟩ := hQ3
  have K4 : Keep h0 T3.heap [] := K2.trans Kq3 (allS (Or.inr sz_b1) all0)
  have N3 := Fr.app N0 Nq3
  obtain ⟨cq5, kq5, q5a, q5b, q5c⟩ := isOf hZ rfl f3_0
  obtain ⟨_, _, ⟨T5, L5, k5, n5⟩, -, X5, ⟨Lc5, hQ5, l5, y5, z5⟩, st5⟩ := X3.virtualBack hx (y := (⟨"com/example/fetchwright/fetchwright/service/Provenance", "awaitsReferences", "()Z"⟩ : MethodName)) (z := (⟨"com/example/fetchwright/fetchwright/service/Provenance", "awaitsReferences", "()Z"⟩ : MethodName)) hown (mvT hZ (hw _ (List.mem_of_getElem? (i := 48) rfl))) (mvT hZ (hw _ (List.mem_of_getElem? (i := 49) rfl))) (notFace_of_selects (args := #[]) (mvT hZ (hw _ (List.mem_of_getElem? (i := 51) rfl)))) (mvT hZ (hw _ (List.mem_of_getElem? (i := 51) rfl))) (mvT hZ (hw _ (List.mem_of_getElem? (i := 50) rfl))) (by decide) (backOf (W := 0) (rm7 l Z a0 hw [] b1 (0 : Int64) T3.heap n0 (Nat.le_trans Z0 K4.1) f3_1) hZ (hw _ (List.mem_of_getElem? (i := 52) rfl)) (hw _ (List.mem_of_getElem? (i := 2) rfl)) (by decide) (by decide)) q5a q5c (g := (mkF m 9 #[.val (.int i1), .val (.ref b1), .unset, .unset] [(.ref b1)])) rfl (by rw [hml]; rfl) (Steps.refl _) (argsL := []) (rest := []) (lenOf pd_2 rfl) rfl (by show 2 * 0 + _ ≤ _; exact Nat.le_of_eq rfl) (hb hby at_9) (fun _ _ => ⟨rfl, rfl, (by decide : 6 + 0 ≤ _), (by decide : 152 + 0 ≤ _)⟩)
  dsimp only [Pt.U, Pt.locs, Pt.cells, Pt.slots] at X5 l5 y5 z5 st5 hQ5
  subst l5 y5 z5
  obtain ⟨rfl, Nq5, e5⟩ := hQ5
  have N5 := Fr.app N3 Nq5
  have pre6 : ∀ t, Steps p.tables e below (T5.setTop (mkF m 12 #[.val (.int i1), .val (.ref b1), .unset, .unset] [(.int (nar .boolean (own_j7_6_0 (0 : Int64))))])) t → Steps p.tables e below (s₁.setTop (entryFrame m #[(.int i1)] maxLocals)) t := by
    intro t k
    refine pre0 _ ?_
    show Steps p.tables e below (s₁.setTop (mkF m 0 #[.val (.int i1), .unset, .unset, .unset] [])) _
    refine st1 _ ?_
    show Steps p.tables e below (T1.setTop (mkF m 3 #[.val (.int i1), .unset, .unset, .unset] [(.ref b1)])) _
    refine XS.dup X1.here hx rfl (hb hby at_3) rfl rfl ?_
    show Steps p.tables e below (T1.setTop (mkF m 4 #[.val (.int i1), .unset, .unset, .unset] [(.ref b1), (.ref b1)])) _
    refine st3.trans ?_
    show Steps p.tables e below (T3.setTop (mkF m 7 #[.val (.int i1), .unset, .unset, .unset] [(.ref b1)])) _
    refine XS.astoreN X3.here hx rfl (hb hby at_7) rfl rfl (l' := #[.val (.int i1), .val (.ref b1), .unset, .unset]) rfl ?_
    show Steps p.tables e below (T3.setTop (mkF m 8 #[.val (.int i1), .val (.ref b1), .unset, .unset] [])) _
    refine XS.aloadN X3.here hx rfl (hb hby at_8) rfl rfl ?_
    show Steps p.tables e below (T3.setTop (mkF m 9 #[.val (.int i1), .val (.ref b1), .unset, .unset] [(.ref b1)])) _
    refine st5.trans ?_
    exact k
  have pre10 : ∀ t, Steps p.tables e below (T5.setTop (mkF m 20 #[.val (.int i1), .val (.ref b1), .unset, .unset] [(.int own_j0_12_0)])) t → Steps p.tables e below (s₁.setTop (entryFrame m #[(.int i1)] maxLocals)) t := by
    by_cases hc12_7 : (nar .boolean (own_j7_6_0 (0 : Int64))) = (0 : Int32)
    · have pre8 : ∀ t, Steps p.tables e below (T5.setTop (mkF m 20 #[.val (.int i1), .val (.ref b1), .unset, .unset] [(.int (1 : Int32))])) t → Steps p.tables e below (s₁.setTop (entryFrame m #[(.int i1)] maxLocals)) t := by
        intro t k
        refine pre6 _ ?_
        show Steps p.tables e below (T5.setTop (mkF m 12 #[.val (.int i1), .val (.ref b1), .unset, .unset] [(.int (nar .boolean (own_j7_6_0 (0 : Int64))))])) _
        refine XS.ifNo X5.here hx rfl (hb hby at_12) rfl ((if0 _ _).trans (teq hc12_7).2) ?_
        show Steps p.tables e below (T5.setTop (mkF m 15 #[.val (.int i1), .val (.ref b1), .unset, .unset] [])) _
        refine XS.iconst X5.here hx rfl (hb hby at_15) ?_
        show Steps p.tables e below (T5.setTop (mkF m 16 #[.val (.int i1), .val (.ref b1), .unset, .unset] [(.int (1 : Int32))])) _
        refine XS.goto X5.here hx rfl (pc0 := 16) (pc' := 20) rfl (hb hby at_16) (by decide) (by decide) ?_
        exact k
      exact fun t k => pre8 t (by rw [show own_j0_12_0 = (1 : Int32) from (if_pos hc12_7)] at k; exact k)
    · have pre9 : ∀ t, Steps p.tables e below (T5.setTop (mkF m 20 #[.val (.int i1), .val (.ref b1), .unset, .unset] [(.int (0 : Int32))])) t → Steps p.tables e below (s₁.setTop (entryFrame m #[(.int i1)] maxLocals)) t := by
        intro t k
        refine pre6 _ ?_
        show Steps p.tables e below (T5.setTop (mkF m 12 #[.val (.int i1), .val (.ref b1), .unset, .unset] [(.int (nar .boolean (own_j7_6_0 (0 : Int64))))])) _
        refine XS.ifYes X5.here hx rfl (pc0 := 12) (pc' := 19) rfl (hb hby at_12) rfl ((if0 _ _).trans (feq hc12_7).2) (by decide) (by decide) ?_
        show Steps p.tables e below (T5.setTop (mkF m 19 #[.val (.int i1), .val (.ref b1), .unset, .unset] [])) _
        refine XS.iconst X5.here hx rfl (hb hby at_19) ?_
        exact k
      exact fun t k => pre9 t (by rw [show own_j0_12_0 = (0 : Int32) from (if_neg hc12_7)] at k; exact k)
  obtain ⟨_, _, ⟨T11, L11, k11, n11⟩, -, X11, ⟨Lc11, hQ11, l11, y11, z11⟩, st11⟩ := Jvm.LawKit.callS X5 hx (y := (⟨"com/example/fetchwright/fetchwright/service/ProvenanceAwaitsReferencesPinLaw", "step", "(Lcom/example/fetchwright/fetchwright/service/Provenance;II)I"⟩ : MethodName)) hown (mvT hZ (hw _ (List.mem_of_getElem? (i := 55) rfl))) (mvT hZ (hw _ (List.mem_of_getElem? (i := 56) rfl))) (mvT hZ (hw _ (List.mem_of_getElem? (i := 57) rfl))) (mvT hZ (hw _ (List.mem_of_getElem? (i := 58) rfl))) (by decide) (backOf (W := 0) (rm8 l Z a0 hw [] b1 i1 (0 : Int32) (0 : Int64) T3.heap n0 (Nat.le_trans Z0 K4.1) f3_1 f3_0 (Nat.le_trans Z0 sz_b1)) hZ (hw _ (List.mem_of_getElem? (i := 58) rfl)) (hw _ (List.mem_of_getElem? (i := 57) rfl)) (by decide) (by decide)) (g := (mkF m 26 #[.val (.int i1), .val (.ref b1), .val (.int own_j0_12_0), .val (.int (0 : Int32))] [(.int (0 : Int32)), (.int i1), (.ref b1)])) rfl (by rw [hml]; rfl) (argsL := [(.ref b1), (.int i1), (.int (0 : Int32))]) (rest := []) (lenOf pd_3 rfl) rfl (by show 2 * 0 + _ ≤ _; exact Nat.le_of_eq rfl) (hb hby at_26) (fun _ _ => ⟨rfl, e5, (by decide : 6 + 0 ≤ _), (by decide : 152 + 0 ≤ _)⟩)
  dsimp only [Pt.U, Pt.locs, Pt.cells, Pt.slots] at X11 l11 y11 z11 st11 hQ11
  subst l11 y11 z11
  obtain ⟨rfl, Nq11, Kq11, f11_0, f11_1⟩ := hQ11
  have K12 : Keep h0 T11.heap [] := K4.trans Kq11 (allS (Or.inr sz_b1) all0)
  have N11 := Fr.app N5 Nq11
  have pre13 : ∀ t, Steps p.tables e below (T11.setTop (mkF m 31 #[.val (.int i1), .val (.ref b1), .val (.int own_j0_12_0), .val (.int (own_r8 i1 (0 : Int32)))] [(.int own_j0_12_0)])) t → Steps p.tables e below (s₁.setTop (entryFrame m #[(.int i1)] maxLocals)) t := by
    intro t k
    refine pre10 _ ?_
    show Steps p.tables e below (T5.setTop (mkF m 20 #[.val (.int i1), .val (.ref b1), .unset, .unset] [(.int own_j0_12_0)])) _
    refine XS.istoreN X5.here hx rfl (hb hby at_20) rfl (l' := #[.val (.int i1), .val (.ref b1), .val (.int own_j0_12_0), .unset]) rfl ?_
    show Steps p.tables e below (T5.setTop (mkF m 21 #[.val (.int i1), .val (.ref b1), .val (.int own_j0_12_0), .unset] [])) _
    refine XS.iconst X5.here hx rfl (hb hby at_21) ?_
    show Steps p.tables e below (T5.setTop (mkF m 22 #[.val (.int i1), .val (.ref b1), .val (.int own_j0_12_0), .unset] [(.int (0 : Int32))])) _
    refine XS.istoreN X5.here hx rfl (hb hby at_22) rfl (l' := #[.val (.int i1), .val (.ref b1), .val (.int own_j0_12_0), .val (.int (0 : Int32))]) rfl ?_
    show Steps p.tables e below (T5.setTop (mkF m 23 #[.val (.int i1), .val (.ref b1), .val (.int own_j0_12_0), .val (.int (0 : Int32))] [])) _
    refine XS.aloadN X5.here hx rfl (hb hby at_23) rfl rfl ?_
    show Steps p.tables e below (T5.setTop (mkF m 24 #[.val (.int i1), .val (.ref b1), .val (.int own_j0_12_0), .val (.int (0 : Int32))] [(.ref b1)])) _
    refine XS.iloadN X5.here hx rfl (hb hby at_24) rfl ?_
    show Steps p.tables e below (T5.setTop (mkF m 25 #[.val (.int i1), .val (.ref b1), .val (.int own_j0_12_0), .val (.int (0 : Int32))] [(.int i1), (.ref b1)])) _
    refine XS.iloadN X5.here hx rfl (hb hby at_25) rfl ?_
    show Steps p.tables e below (T5.setTop (mkF m 26 #[.val (.int i1), .val (.ref b1), .val (.int own_j0_12_0), .val (.int (0 : Int32))] [(.int (0 : Int32)), (.int i1), (.ref b1)])) _
    refine st11 _ ?_
    show Steps p.tables e below (T11.setTop (mkF m 29 #[.val (.int i1), .val (.ref b1), .val (.int own_j0_12_0), .val (.int (0 : Int32))] [(.int (own_r8 i1 (0 : Int32)))])) _
    refine XS.istoreN X11.here hx rfl (hb hby at_29) rfl (l' := #[.val (.int i1), .val (.ref b1), .val (.int own_j0_12_0), .val (.int (own_r8 i1 (0 : Int32)))]) rfl ?_
    show Steps p.tables e below (T11.setTop (mkF m 30 #[.val (.int i1), .val (.ref b1), .val (.int own_j0_12_0), .val (.int (own_r8 i1 (0 : Int32)))] [])) _
    refine XS.iloadN X11.here hx rfl (hb hby at_30) rfl ?_
    exact k
  obtain ⟨T25, Lq25, X25, N25, e25, pre25⟩ : ∃ (T' : State) (locs' : List Loc), Stand p l e room_1 s m #[(.int i1)] below meth c T' locs' 6 152 ∧ Fr n0 locs' ∧ T'.heap = T11.heap ∧ ∀ t, Steps p.tables e below (T'.setTop (mkF m 55 #[.val (.int i1), .val (.ref b1), .val (.int own_j0_12_0), .val (.int (own_r8 i1 (0 : Int32)))] [(.int (own_j0_31_0 i1))])) t → Steps p.tables e below (s₁.setTop (entryFrame m #[(.int i1)] maxLocals)) t := by
    by_cases hc31_14 : own_j0_12_0 = (0 : Int32)
    · have pre15 : ∀ t, Steps p.tables e below (T11.setTop (mkF m 55 #[.val (.int i1), .val (.ref b1), .val (.int own_j0_12_0), .val (.int (own_r8 i1 (0 : Int32)))] [(.int (0 : Int32))])) t → Steps p.tables e below (s₁.setTop (entryFrame m #[(.int i1)] maxLocals)) t := by
        intro t k
        refine pre13 _ ?_
        show Steps p.tables e below (T11.setTop (mkF m 31 #[.val (.int i1), .val (.ref b1), .val (.int own_j0_12_0), .val (.int (own_r8 i1 (0 : Int32)))] [(.int own_j0_12_0)])) _
        refine XS.ifYes X11.here hx rfl (pc0 := 31) (pc' := 54) rfl (hb hby at_31) rfl ((if0 _ _).trans (teq hc31_14).1) (by decide) (by decide) ?_
        show Steps p.tables e below (T11.setTop (mkF m 54 #[.val (.int i1), .val (.ref b1), .val (.int own_j0_12_0), .val (.int (own_r8 i1 (0 : Int32)))] [])) _
        refine XS.iconst X11.here hx rfl (hb hby at_54) ?_
        exact k
      exact ⟨T11, _, X11, N11, rfl, fun t k => pre15 t (by rw [show (own_j0_31_0 i1) = (0 : Int32) from (if_pos hc31_14)] at k; exact k)⟩
    · obtain ⟨cq16, kq16, q16a, q16b, q16c⟩ := isOf hZ rfl f11_0
      obtain ⟨_, _, ⟨T16, L16, k16, n16⟩, -, X16, ⟨Lc16, hQ16, l16, y16, z16⟩, st16⟩ := X11.virtualBack hx (y := (⟨"com/example/fetchwright/fetchwright/service/Provenance", "awaitsReferences", "()Z"⟩ : MethodName)) (z := (⟨"com/example/fetchwright/fetchwright/service/Provenance", "awaitsReferences", "()Z"⟩ : MethodName)) hown (mvT hZ (hw _ (List.mem_of_getElem? (i := 48) rfl))) (mvT hZ (hw _ (List.mem_of_getElem? (i := 49) rfl))) (notFace_of_selects (args := #[]) (mvT hZ (hw _ (List.mem_of_getElem? (i := 51) rfl)))) (mvT hZ (hw _ (List.mem_of_getElem? (i := 51) rfl))) (mvT hZ (hw _ (List.mem_of_getElem? (i := 50) rfl))) (by decide) (backOf (W := 0) (rm7 l Z a0 hw [] b1 (own_f8_endedUnclaimed i1 (0 : Int64)) T11.heap n0 (Nat.le_trans Z0 K12.1) f11_1) hZ (hw _ (List.mem_of_getElem? (i := 52) rfl)) (hw _ (List.mem_of_getElem? (i := 2) rfl)) (by decide) (by decide)) q16a q16c (g := (mkF m 35 #[.val (.int i1), .val (.ref b1), .val (.int own_j0_12_0), .val (.int (own_r8 i1 (0 : Int32)))] [(.ref b1)])) rfl (by rw [hml]; rfl) (Steps.refl _) (argsL := []) (rest := []) (lenOf pd_2 rfl) rfl (by show 2 * 0 + _ ≤ _; exact Nat.le_of_eq rfl) (hb hby at_35) (fun _ _ => ⟨rfl, rfl, (by decide : 6 + 0 ≤ _), (by decide : 152 + 0 ≤ _)⟩)
      dsimp only [Pt.U, Pt.locs, Pt.cells, Pt.slots] at X16 l16 y16 z16 st16 hQ16
      subst l16 y16 z16
      obtain ⟨rfl, Nq16, e16⟩ := hQ16
      have N16 := Fr.app N11 Nq16
      have pre17 : ∀ t, Steps p.tables e below (T16.setTop (mkF m 39 #[.val (.int i1), .val (.ref b1), .val (.int own_j0_12_0), .val (.int (own_r8 i1 (0 : Int32)))] [(.int (own_r8 i1 (0 : Int32))), (.int (nar .boolean (own_j7_6_0 (own_f8_endedUnclaimed i1 (0 : Int64)))))])) t → Steps p.tables e below (s₁.setTop (entryFrame m #[(.int i1)] maxLocals)) t := by
        intro t k
        refine pre13 _ ?_
        show Steps p.tables e below (T11.setTop (mkF m 31 #[.val (.int i1), .val (.ref b1), .val (.int own_j0_12_0), .val (.int (own_r8 i1 (0 : Int32)))] [(.int own_j0_12_0)])) _
        refine XS.ifNo X11.here hx rfl (hb hby at_31) rfl ((if0 _ _).trans (feq hc31_14).1) ?_
        show Steps p.tables e below (T11.setTop (mkF m 34 #[.val (.int i1), .val (.ref b1), .val (.int own_j0_12_0), .val (.int (own_r8 i1 (0 : Int32)))] [])) _
        refine XS.aloadN X11.here hx rfl (hb hby at_34) rfl rfl ?_
        show Steps p.tables e below (T11.setTop (mkF m 35 #[.val (.int i1), .val (.ref b1), .val (.int own_j0_12_0), .val (.int (own_r8 i1 (0 : Int32)))] [(.ref b1)])) _
        refine st16.trans ?_
        show Steps p.tables e below (T16.setTop (mkF m 38 #[.val (.int i1), .val (.ref b1), .val (.int own_j0_12_0), .val (.int (own_r8 i1 (0 : Int32)))] [(.int (nar .boolean (own_j7_6_0 (own_f8_endedUnclaimed i1 (0 : Int64)))))])) _
        refine XS.iloadN X16.here hx rfl (hb hby at_38) rfl ?_
        exact k
      have pre21 : ∀ t, Steps p.tables e below (T16.setTop (mkF m 47 #[.val (.int i1), .val (.ref b1), .val (.int own_j0_12_0), .val (.int (own_r8 i1 (0 : Int32)))] [(.int (own_j0_39_0 i1)), (.int (nar .boolean (own_j7_6_0 (own_f8_endedUnclaimed i1 (0 : Int64)))))])) t → Steps p.tables e below (s₁.setTop (entryFrame m #[(.int i1)] maxLocals)) t := by
        by_cases hc39_18 : (0 : Int32) < (own_r8 i1 (0 : Int32))
        · have pre19 : ∀ t, Steps p.tables e below (T16.setTop (mkF m 47 #[.val (.int i1), .val (.ref b1), .val (.int own_j0_12_0), .val (.int (own_r8 i1 (0 : Int32)))] [(.int (1 : Int32)), (.int (nar .boolean (own_j7_6_0 (own_f8_endedUnclaimed i1 (0 : Int64)))))])) t → Steps p.tables e below (s₁.setTop (entryFrame m #[(.int i1)] maxLocals)) t := by
            intro t k
            refine pre17 _ ?_
            show Steps p.tables e below (T16.setTop (mkF m 39 #[.val (.int i1), .val (.ref b1), .val (.int own_j0_12_0), .val (.int (own_r8 i1 (0 : Int32)))] [(.int (own_r8 i1 (0 : Int32))), (.int (nar .boolean (own_j7_6_0 (own_f8_endedUnclaimed i1 (0 : Int64)))))])) _
            refine XS.ifNo X16.here hx rfl (hb hby at_39) rfl ((if0 _ _).trans (tlt hc39_18).2.2.2) ?_
            show Steps p.tables e below (T16.setTop (mkF m 42 #[.val (.int i1), .val (.ref b1), .val (.int own_j0_12_0), .val (.int (own_r8 i1 (0 : Int32)))] [(.int (nar .boolean (own_j7_6_0 (own_f8_endedUnclaimed i1 (0 : Int64)))))])) _
            refine XS.iconst X16.here hx rfl (hb hby at_42) ?_
            show Steps p.tables e below (T16.setTop (mkF m 43 #[.val (.int i1), .val (.ref b1), .val (.int own_j0_12_0), .val (.int (own_r8 i1 (0 : Int32)))] [(.int (1 : Int32)), (.int (nar .boolean (own_j7_6_0 (own_f8_endedUnclaimed i1 (0 : Int64)))))])) _
            refine XS.goto X16.here hx rfl (pc0 := 43) (pc' := 47) rfl (hb hby at_43) (by decide) (by decide) ?_
            exact k
          exact fun t k => pre19 t (by rw [show (own_j0_39_0 i1) = (1 : Int32) from (if_pos hc39_18)] at k; exact k)
        · have pre20 : ∀ t, Steps p.tables e below (T16.setTop (mkF m 47 #[.val (.int i1), .val (.ref b1), .val (.int own_j0_12_0), .val (.int (own_r8 i1 (0 : Int32)))] [(.int (0 : Int32)), (.int (nar .boolean (own_j7_6_0 (own_f8_endedUnclaimed i1 (0 : Int64)))))])) t → Steps p.tables e below (s₁.setTop (entryFrame m #[(.int i1)] maxLocals)) t := by
            intro t k
            refine pre17 _ ?_
            show Steps p.tables e below (T16.setTop (mkF m 39 #[.val (.int i1), .val (.ref b1), .val (.int own_j0_12_0), .val (.int (own_r8 i1 (0 : Int32)))] [(.int (own_r8 i1 (0 : Int32))), (.int (nar .boolean (own_j7_6_0 (own_f8_endedUnclaimed i1 (0 : Int64)))))])) _
            refine XS.ifYes X16.here hx rfl (pc0 := 39) (pc' := 46) rfl (hb hby at_39) rfl ((if0 _ _).trans (flt hc39_18).2.2.2) (by decide) (by decide) ?_
            show Steps p.tables e below (T16.setTop (mkF m 46 #[.val (.int i1), .val (.ref b1), .val (.int own_j0_12_0), .val (.int (own_r8 i1 (0 : Int32)))] [(.int (nar .boolean (own_j7_6_0 (own_f8_endedUnclaimed i1 (0 : Int64)))))])) _
            refine XS.iconst X16.here hx rfl (hb hby at_46) ?_
            exact k
          exact fun t k => pre20 t (by rw [show (own_j0_39_0 i1) = (0 : Int32) from (if_neg hc39_18)] at k; exact k)
      by_cases hc47_22 : (nar .boolean (own_j7_6_0 (own_f8_endedUnclaimed i1 (0 : Int64)))) = (own_j0_39_0 i1)
      · have pre23 : ∀ t, Steps p.tables e below (T16.setTop (mkF m 55 #[.val (.int i1), .val (.ref b1), .val (.int own_j0_12_0), .val (.int (own_r8 i1 (0 : Int32)))] [(.int (1 : Int32))])) t → Steps p.tables e below (s₁.setTop (entryFrame m #[(.int i1)] maxLocals)) t := by
          intro t k
          refine pre21 _ ?_
          show Steps p.tables e below (T16.setTop (mkF m 47 #[.val (.int i1), .val (.ref b1), .val (.int own_j0_12_0), .val (.int (own_r8 i1 (0 : Int32)))] [(.int (own_j0_39_0 i1)), (.int (nar .boolean (own_j7_6_0 (own_f8_endedUnclaimed i1 (0 : Int64)))))])) _
          refine XS.icmpNo X16.here hx rfl (hb hby at_47) rfl (teq hc47_22).2 ?_
          show Steps p.tables e below (T16.setTop (mkF m 50 #[.val (.int i1), .val (.ref b1), .val (.int own_j0_12_0), .val (.int (own_r8 i1 (0 : Int32)))] [])) _
          refine XS.iconst X16.here hx rfl (hb hby at_50) ?_
          show Steps p.tables e below (T16.setTop (mkF m 51 #[.val (.int i1), .val (.ref b1), .val (.int own_j0_12_0), .val (.int (own_r8 i1 (0 : Int32)))] [(.int (1 : Int32))])) _
          refine XS.goto X16.here hx rfl (pc0 := 51) (pc' := 55) rfl (hb hby at_51) (by decide) (by decide) ?_
          exact k
        exact ⟨T16, _, X16, N16, e16, fun t k => pre23 t (by rw [show (own_j0_31_0 i1) = (1 : Int32) from ((if_neg hc31_14).trans (if_pos hc47_22))] at k; exact k)⟩
      · have pre24 : ∀ t, Steps p.tables e below (T16.setTop (mkF m 55 #[.val (.int i1), .val (.ref b1), .val (.int own_j0_12_0), .val (.int (own_r8 i1 (0 : Int32)))] [(.int (0 : Int32))])) t → Steps p.tables e below (s₁.setTop (entryFrame m #[(.int i1)] maxLocals)) t := by
          intro t k
          refine pre21 _ ?_
          show Steps p.tables e below (T16.setTop (mkF m 47 #[.val (.int i1), .val (.ref b1), .val (.int own_j0_12_0), .val (.int (own_r8 i1 (0 : Int32)))] [(.int (own_j0_39_0 i1)), (.int (nar .boolean (own_j7_6_0 (own_f8_endedUnclaimed i1 (0 : Int64)))))])) _
          refine XS.icmpYes X16.here hx rfl (pc0 := 47) (pc' := 54) rfl (hb hby at_47) rfl (feq hc47_22).2 (by decide) (by decide) ?_
          show Steps p.tables e below (T16.setTop (mkF m 54 #[.val (.int i1), .val (.ref b1), .val (.int own_j0_12_0), .val (.int (own_r8 i1 (0 : Int32)))] [])) _
          refine XS.iconst X16.here hx rfl (hb hby at_54) ?_
          exact k
        exact ⟨T16, _, X16, N16, e16, fun t k => pre24 t (by rw [show (own_j0_31_0 i1) = (0 : Int32) from ((if_neg hc31_14).trans (if_neg hc47_22))] at k; exact k)⟩
  obtain ⟨_, _, ⟨T26, L26, k26, n26⟩, -, X26, ⟨Lc26, hQ26, l26, y26, z26⟩, st26⟩ := Jvm.LawKit.callS X25 hx (y := (⟨"com/example/fetchwright/fetchwright/service/ProvenanceAwaitsReferencesPinLaw", "step", "(Lcom/example/fetchwright/fetchwright/service/Provenance;II)I"⟩ : MethodName)) hown (mvT hZ (hw _ (List.mem_of_getElem? (i := 55) rfl))) (mvT hZ (hw _ (List.mem_of_getElem? (i := 56) rfl))) (mvT hZ (hw _ (List.mem_of_getElem? (i := 57) rfl))) (mvT hZ (hw _ (List.mem_of_getElem? (i := 58) rfl))) (by decide) (backOf (W := 0) (rm8 l Z a0 hw [] b1 ((i1.toUInt32 >>> ((2 : Int32) &&& 31).toUInt32).toInt32) (own_r8 i1 (0 : Int32)) (own_f8_endedUnclaimed i1 (0 : Int64)) T11.heap n0 (Nat.le_trans Z0 K12.1) f11_1 f11_0 (Nat.le_trans Z0 sz_b1)) hZ (hw _ (List.mem_of_getElem? (i := 58) rfl)) (hw _ (List.mem_of_getElem? (i := 57) rfl)) (by decide) (by decide)) (g := (mkF m 61 #[.val (.int i1), .val (.ref b1), .val (.int (own_j0_31_0 i1)), .val (.int (own_r8 i1 (0 : Int32)))] [(.int (own_r8 i1 (0 : Int32))), (.int ((i1.toUInt32 >>> ((2 : Int32) &&& 31).toUInt32).toInt32)), (.ref b1)])) rfl (by rw [hml]; rfl) (argsL := [(.ref b1), (.int ((i1.toUInt32 >>> ((2 : Int32) &&& 31).toUInt32).toInt32)), (.int (own_r8 i1 (0 : Int32)))]) (rest := []) (lenOf pd_3 rfl) rfl (by show 2 * 0 + _ ≤ _; exact Nat.le_of_eq rfl) (hb hby at_61) (fun _ _ => ⟨rfl, e25, (by decide : 6 + 0 ≤ _), (by decide : 152 + 0 ≤ _)⟩)
  dsimp only [Pt.U, Pt.locs, Pt.cells, Pt.slots] at X26 l26 y26 z26 st26 hQ26
  subst l26 y26 z26
  obtain ⟨rfl, Nq26, Kq26, f26_0, f26_1⟩ := hQ26
  have K27 : Keep h0 T26.heap [] := K12.trans Kq26 (allS (Or.inr sz_b1) all0)
  have N26 := Fr.app N25 Nq26
  have pre28 : ∀ t, Steps p.tables e below (T26.setTop (mkF m 66 #[.val (.int i1), .val (.ref b1), .val (.int (own_j0_31_0 i1)), .val (.int (own_r8 ((i1.toUInt32 >>> ((2 : Int32) &&& 31).toUInt32).toInt32) (own_r8 i1 (0 : Int32))))] [(.int (own_j0_31_0 i1))])) t → Steps p.tables e below (s₁.setTop (entryFrame m #[(.int i1)] maxLocals)) t := by
    intro t k
    refine pre25 _ ?_
    show Steps p.tables e below (T25.setTop (mkF m 55 #[.val (.int i1), .val (.ref b1), .val (.int own_j0_12_0), .val (.int (own_r8 i1 (0 : Int32)))] [(.int (own_j0_31_0 i1))])) _
    refine XS.istoreN X25.here hx rfl (hb hby at_55) rfl (l' := #[.val (.int i1), .val (.ref b1), .val (.int (own_j0_31_0 i1)), .val (.int (own_r8 i1 (0 : Int32)))]) rfl ?_
    show Steps p.tables e below (T25.setTop (mkF m 56 #[.val (.int i1), .val (.ref b1), .val (.int (own_j0_31_0 i1)), .val (.int (own_r8 i1 (0 : Int32)))] [])) _
    refine XS.aloadN X25.here hx rfl (hb hby at_56) rfl rfl ?_
    show Steps p.tables e below (T25.setTop (mkF m 57 #[.val (.int i1), .val (.ref b1), .val (.int (own_j0_31_0 i1)), .val (.int (own_r8 i1 (0 : Int32)))] [(.ref b1)])) _
    refine XS.iloadN X25.here hx rfl (hb hby at_57) rfl ?_
    show Steps p.tables e below (T25.setTop (mkF m 58 #[.val (.int i1), .val (.ref b1), .val (.int (own_j0_31_0 i1)), .val (.int (own_r8 i1 (0 : Int32)))] [(.int i1), (.ref b1)])) _
    refine XS.iconst X25.here hx rfl (hb hby at_58) ?_
    show Steps p.tables e below (T25.setTop (mkF m 59 #[.val (.int i1), .val (.ref b1), .val (.int (own_j0_31_0 i1)), .val (.int (own_r8 i1 (0 : Int32)))] [(.int (2 : Int32)), (.int i1), (.ref b1)])) _
    refine XS.iushr X25.here hx rfl (hb hby at_59) rfl ?_
    show Steps p.tables e below (T25.setTop (mkF m 60 #[.val (.int i1), .val (.ref b1), .val (.int (own_j0_31_0 i1)), .val (.int (own_r8 i1 (0 : Int32)))] [(.int ((i1.toUInt32 >>> ((2 : Int32) &&& 31).toUInt32).toInt32)), (.ref b1)])) _
    refine XS.iloadN X25.here hx rfl (hb hby at_60) rfl ?_
    show Steps p.tables e below (T25.setTop (mkF m 61 #[.val (.int i1), .val (.ref b1), .val (.int (own_j0_31_0 i1)), .val (.int (own_r8 i1 (0 : Int32)))] [(.int (own_r8 i1 (0 : Int32))), (.int ((i1.toUInt32 >>> ((2 : Int32) &&& 31).toUInt32).toInt32)), (.ref b1)])) _
    refine st26 _ ?_
    show Steps p.tables e below (T26.setTop (mkF m 64 #[.val (.int i1), .val (.ref b1), .val (.int (own_j0_31_0 i1)), .val (.int (own_r8 i1 (0 : Int32)))] [(.int (own_r8 ((i1.toUInt32 >>> ((2 : Int32) &&& 31).toUInt32).toInt32) (own_r8 i1 (0 : Int32))))])) _
    refine XS.istoreN X26.here hx rfl (hb hby at_64) rfl (l' := #[.val (.int i1), .val (.ref b1), .val (.int (own_j0_31_0 i1)), .val (.int (own_r8 ((i1.toUInt32 >>> ((2 : Int32) &&& 31).toUInt32).toInt32) (own_r8 i1 (0 : Int32))))]) rfl ?_
    show Steps p.tables e below (T26.setTop (mkF m 65 #[.val (.int i1), .val (.ref b1), .val (.int (own_j0_31_0 i1)), .val (.int (own_r8 ((i1.toUInt32 >>> ((2 : Int32) &&& 31).toUInt32).toInt32) (own_r8 i1 (0 : Int32))))] [])) _
    refine XS.iloadN X26.here hx rfl (hb hby at_65) rfl ?_
    exact k
  obtain ⟨T40, Lq40, X40, N40, e40, pre40⟩ : ∃ (T' : State) (locs' : List Loc), Stand p l e room_1 s m #[(.int i1)] below meth c T' locs' 6 152 ∧ Fr n0 locs' ∧ T'.heap = T26.heap ∧ ∀ t, Steps p.tables e below (T'.setTop (mkF m 90 #[.val (.int i1), .val (.ref b1), .val (.int (own_j0_31_0 i1)), .val (.int (own_r8 ((i1.toUInt32 >>> ((2 : Int32) &&& 31).toUInt32).toInt32) (own_r8 i1 (0 : Int32))))] [(.int (own_j0_66_0 i1))])) t → Steps p.tables e below (s₁.setTop (entryFrame m #[(.int i1)] maxLocals)) t := by
    by_cases hc66_29 : (own_j0_31_0 i1) = (0 : Int32)
    · have pre30 : ∀ t, Steps p.tables e below (T26.setTop (mkF m 90 #[.val (.int i1), .val (.ref b1), .val (.int (own_j0_31_0 i1)), .val (.int (own_r8 ((i1.toUInt32 >>> ((2 : Int32) &&& 31).toUInt32).toInt32) (own_r8 i1 (0 : Int32))))] [(.int (0 : Int32))])) t → Steps p.tables e below (s₁.setTop (entryFrame m #[(.int i1)] maxLocals)) t := by
        intro t k
        refine pre28 _ ?_
        show Steps p.tables e below (T26.setTop (mkF m 66 #[.val (.int i1), .val (.ref b1), .val (.int (own_j0_31_0 i1)), .val (.int (own_r8 ((i1.toUInt32 >>> ((2 : Int32) &&& 31).toUInt32).toInt32) (own_r8 i1 (0 : Int32))))] [(.int (own_j0_31_0 i1))])) _
        refine XS.ifYes X26.here hx rfl (pc0 := 66) (pc' := 89) rfl (hb hby at_66) rfl ((if0 _ _).trans (teq hc66_29).1) (by decide) (by decide) ?_
        show Steps p.tables e below (T26.setTop (mkF m 89 #[.val (.int i1), .val (.ref b1), .val (.int (own_j0_31_0 i1)), .val (.int (own_r8 ((i1.toUInt32 >>> ((2 : Int32) &&& 31).toUInt32).toInt32) (own_r8 i1 (0 : Int32))))] [])) _
        refine XS.iconst X26.here hx rfl (hb hby at_89) ?_
        exact k
      exact ⟨T26, _, X26, N26, rfl, fun t k => pre30 t (by rw [show (own_j0_66_0 i1) = (0 : Int32) from (if_pos hc66_29)] at k; exact k)⟩
    · obtain ⟨cq31, kq31, q31a, q31b, q31c⟩ := isOf hZ rfl f26_0
      obtain ⟨_, _, ⟨T31, L31, k31, n31⟩, -, X31, ⟨Lc31, hQ31, l31, y31, z31⟩, st31⟩ := X26.virtualBack hx (y := (⟨"com/example/fetchwright/fetchwright/service/Provenance", "awaitsReferences", "()Z"⟩ : MethodName)) (z := (⟨"com/example/fetchwright/fetchwright/service/Provenance", "awaitsReferences", "()Z"⟩ : MethodName)) hown (mvT hZ (hw _ (List.mem_of_getElem? (i := 48) rfl))) (mvT hZ (hw _ (List.mem_of_getElem? (i := 49) rfl))) (notFace_of_selects (args := #[]) (mvT hZ (hw _ (List.mem_of_getElem? (i := 51) rfl)))) (mvT hZ (hw _ (List.mem_of_getElem? (i := 51) rfl))) (mvT hZ (hw _ (List.mem_of_getElem? (i := 50) rfl))) (by decide) (backOf (W := 0) (rm7 l Z a0 hw [] b1 (own_f8_endedUnclaimed ((i1.toUInt32 >>> ((2 : Int32) &&& 31).toUInt32).toInt32) (own_f8_endedUnclaimed i1 (0 : Int64))) T26.heap n0 (Nat.le_trans Z0 K27.1) f26_1) hZ (hw _ (List.mem_of_getElem? (i := 52) rfl)) (hw _ (List.mem_of_getElem? (i := 2) rfl)) (by decide) (by decide)) q31a q31c (g := (mkF m 70 #[.val (.int i1), .val (.ref b1), .val (.int (own_j0_31_0 i1)), .val (.int (own_r8 ((i1.toUInt32 >>> ((2 : Int32) &&& 31).toUInt32).toInt32) (own_r8 i1 (0 : Int32))))] [(.ref b1)])) rfl (by rw [hml]; rfl) (Steps.refl _) (argsL := []) (rest := []) (lenOf pd_2 rfl) rfl (by show 2 * 0 + _ ≤ _; exact Nat.le_of_eq rfl) (hb hby at_70) (fun _ _ => ⟨rfl, rfl, (by decide : 6 + 0 ≤ _), (by decide : 152 + 0 ≤ _)⟩)
      dsimp only [Pt.U, Pt.locs, Pt.cells, Pt.slots] at X31 l31 y31 z31 st31 hQ31
      subst l31 y31 z31
      obtain ⟨rfl, Nq31, e31⟩ := hQ31
      have N31 := Fr.app N26 Nq31
      have pre32 : ∀ t, Steps p.tables e below (T31.setTop (mkF m 74 #[.val (.int i1), .val (.ref b1), .val (.int (own_j0_31_0 i1)), .val (.int (own_r8 ((i1.toUInt32 >>> ((2 : Int32) &&& 31).toUInt32).toInt32) (own_r8 i1 (0 : Int32))))] [(.int (own_r8 ((i1.toUInt32 >>> ((2 : Int32) &&& 31).toUInt32).toInt32) (own_r8 i1 (0 : Int32)))), (.int (nar .boolean (own_j7_6_0 (own_f8_endedUnclaimed ((i1.toUInt32 >>> ((2 : Int32) &&& 31).toUInt32).toInt32) (own_f8_endedUnclaimed i1 (0 : Int64))))))])) t → Steps p.tables e below (s₁.setTop (entryFrame m #[(.int i1)] maxLocals)) t := by
        intro t k
        refine pre28 _ ?_
        show Steps p.tables e below (T26.setTop (mkF m 66 #[.val (.int i1), .val (.ref b1), .val (.int (own_j0_31_0 i1)), .val (.int (own_r8 ((i1.toUInt32 >>> ((2 : Int32) &&& 31).toUInt32).toInt32) (own_r8 i1 (0 : Int32))))] [(.int (own_j0_31_0 i1))])) _
        refine XS.ifNo X26.here hx rfl (hb hby at_66) rfl ((if0 _ _).trans (feq hc66_29).1) ?_
        show Steps p.tables e below (T26.setTop (mkF m 69 #[.val (.int i1), .val (.ref b1), .val (.int (own_j0_31_0 i1)), .val (.int (own_r8 ((i1.toUInt32 >>> ((2 : Int32) &&& 31).toUInt32).toInt32) (own_r8 i1 (0 : Int32))))] [])) _
        refine XS.aloadN X26.here hx rfl (hb hby at_69) rfl rfl ?_
        show Steps p.tables e below (T26.setTop (mkF m 70 #[.val (.int i1), .val (.ref b1), .val (.int (own_j0_31_0 i1)), .val (.int (own_r8 ((i1.toUInt32 >>> ((2 : Int32) &&& 31).toUInt32).toInt32) (own_r8 i1 (0 : Int32))))] [(.ref b1)])) _
        refine st31.trans ?_
        show Steps p.tables e below (T31.setTop (mkF m 73 #[.val (.int i1), .val (.ref b1), .val (.int (own_j0_31_0 i1)), .val (.int (own_r8 ((i1.toUInt32 >>> ((2 : Int32) &&& 31).toUInt32).toInt32) (own_r8 i1 (0 : Int32))))] [(.int (nar .boolean (own_j7_6_0 (own_f8_endedUnclaimed ((i1.toUInt32 >>> ((2 : Int32) &&& 31).toUInt32).toInt32) (own_f8_endedUnclaimed i1 (0 : Int64))))))])) _
        refine XS.iloadN X31.here hx rfl (hb hby at_73) rfl ?_
        exact k
      have pre36 : ∀ t, Steps p.tables e below (T31.setTop (mkF m 82 #[.val (.int i1), .val (.ref b1), .val (.int (own_j0_31_0 i1)), .val (.int (own_r8 ((i1.toUInt32 >>> ((2 : Int32) &&& 31).toUInt32).toInt32) (own_r8 i1 (0 : Int32))))] [(.int (own_j0_74_0 i1)), (.int (nar .boolean (own_j7_6_0 (own_f8_endedUnclaimed ((i1.toUInt32 >>> ((2 : Int32) &&& 31).toUInt32).toInt32) (own_f8_endedUnclaimed i1 (0 : Int64))))))])) t → Steps p.tables e below (s₁.setTop (entryFrame m #[(.int i1)] maxLocals)) t := by
        by_cases hc74_33 : (0 : Int32) < (own_r8 ((i1.toUInt32 >>> ((2 : Int32) &&& 31).toUInt32).toInt32) (own_r8 i1 (0 : Int32)))
        · have pre34 : ∀ t, Steps p.tables e below (T31.setTop (mkF m 82 #[.val (.int i1), .val (.ref b1), .val (.int (own_j0_31_0 i1)), .val (.int (own_r8 ((i1.toUInt32 >>> ((2 : Int32) &&& 31).toUInt32).toInt32) (own_r8 i1 (0 : Int32))))] [(.int (1 : Int32)), (.int (nar .boolean (own_j7_6_0 (own_f8_endedUnclaimed ((i1.toUInt32 >>> ((2 : Int32) &&& 31).toUInt32).toInt32) (own_f8_endedUnclaimed i1 (0 : Int64))))))])) t → Steps p.tables e below (s₁.setTop (entryFrame m #[(.int i1)] maxLocals)) t := by
            intro t k
            refine pre32 _ ?_
            show Steps p.tables e below (T31.setTop (mkF m 74 #[.val (.int i1), .val (.ref b1), .val (.int (own_j0_31_0 i1)), .val (.int (own_r8 ((i1.toUInt32 >>> ((2 : Int32) &&& 31).toUInt32).toInt32) (own_r8 i1 (0 : Int32))))] [(.int (own_r8 ((i1.toUInt32 >>> ((2 : Int32) &&& 31).toUInt32).toInt32) (own_r8 i1 (0 : Int32)))), (.int (nar .boolean (own_j7_6_0 (own_f8_endedUnclaimed ((i1.toUInt32 >>> ((2 : Int32) &&& 31).toUInt32).toInt32) (own_f8_endedUnclaimed i1 (0 : Int64))))))])) _
            refine XS.ifNo X31.here hx rfl (hb hby at_74) rfl ((if0 _ _).trans (tlt hc74_33).2.2.2) ?_
            show Steps p.tables e below (T31.setTop (mkF m 77 #[.val (.int i1), .val (.ref b1), .val (.int (own_j0_31_0 i1)), .val (.int (own_r8 ((i1.toUInt32 >>> ((2 : Int32) &&& 31).toUInt32).toInt32) (own_r8 i1 (0 : Int32))))] [(.int (nar .boolean (own_j7_6_0 (own_f8_endedUnclaimed ((i1.toUInt32 >>> ((2 : Int32) &&& 31).toUInt32).toInt32) (own_f8_endedUnclaimed i1 (0 : Int64))))))])) _
            refine XS.iconst X31.here hx rfl (hb hby at_77) ?_
            show Steps p.tables e below (T31.setTop (mkF m 78 #[.val (.int i1), .val (.ref b1), .val (.int (own_j0_31_0 i1)), .val (.int (own_r8 ((i1.toUInt32 >>> ((2 : Int32) &&& 31).toUInt32).toInt32) (own_r8 i1 (0 : Int32))))] [(.int (1 : Int32)), (.int (nar .boolean (own_j7_6_0 (own_f8_endedUnclaimed ((i1.toUInt32 >>> ((2 : Int32) &&& 31).toUInt32).toInt32) (own_f8_endedUnclaimed i1 (0 : Int64))))))])) _
            refine XS.goto X31.here hx rfl (pc0 := 78) (pc' := 82) rfl (hb hby at_78) (by decide) (by decide) ?_
            exact k
          exact fun t k => pre34 t (by rw [show (own_j0_74_0 i1) = (1 : Int32) from (if_pos hc74_33)] at k; exact k)
        · have pre35 : ∀ t, Steps p.tables e below (T31.setTop (mkF m 82 #[.val (.int i1), .val (.ref b1), .val (.int (own_j0_31_0 i1)), .val (.int (own_r8 ((i1.toUInt32 >>> ((2 : Int32) &&& 31).toUInt32).toInt32) (own_r8 i1 (0 : Int32))))] [(.int (0 : Int32)), (.int (nar .boolean (own_j7_6_0 (own_f8_endedUnclaimed ((i1.toUInt32 >>> ((2 : Int32) &&& 31).toUInt32).toInt32) (own_f8_endedUnclaimed i1 (0 : Int64))))))])) t → Steps p.tables e below (s₁.setTop (entryFrame m #[(.int i1)] maxLocals)) t := by
            intro t k
            refine pre32 _ ?_
            show Steps p.tables e below (T31.setTop (mkF m 74 #[.val (.int i1), .val (.ref b1), .val (.int (own_j0_31_0 i1)), .val (.int (own_r8 ((i1.toUInt32 >>> ((2 : Int32) &&& 31).toUInt32).toInt32) (own_r8 i1 (0 : Int32))))] [(.int (own_r8 ((i1.toUInt32 >>> ((2 : Int32) &&& 31).toUInt32).toInt32) (own_r8 i1 (0 : Int32)))), (.int (nar .boolean (own_j7_6_0 (own_f8_endedUnclaimed ((i1.toUInt32 >>> ((2 : Int32) &&& 31).toUInt32).toInt32) (own_f8_endedUnclaimed i1 (0 : Int64))))))])) _
            refine XS.ifYes X31.here hx rfl (pc0 := 74) (pc' := 81) rfl (hb hby at_74) rfl ((if0 _ _).trans (flt hc74_33).2.2.2) (by decide) (by decide) ?_
            show Steps p.tables e below (T31.setTop (mkF m 81 #[.val (.int i1), .val (.ref b1), .val (.int (own_j0_31_0 i1)), .val (.int (own_r8 ((i1.toUInt32 >>> ((2 : Int32) &&& 31).toUInt32).toInt32) (own_r8 i1 (0 : Int32))))] [(.int (nar .boolean (own_j7_6_0 (own_f8_endedUnclaimed ((i1.toUInt32 >>> ((2 : Int32) &&& 31).toUInt32).toInt32) (own_f8_endedUnclaimed i1 (0 : Int64))))))])) _
            refine XS.iconst X31.here hx rfl (hb hby at_81) ?_
            exact k
          exact fun t k => pre35 t (by rw [show (own_j0_74_0 i1) = (0 : Int32) from (if_neg hc74_33)] at k; exact k)
      by_cases hc82_37 : (nar .boolean (own_j7_6_0 (own_f8_endedUnclaimed ((i1.toUInt32 >>> ((2 : Int32) &&& 31).toUInt32).toInt32) (own_f8_endedUnclaimed i1 (0 : Int64))))) = (own_j0_74_0 i1)
      · have pre38 : ∀ t, Steps p.tables e below (T31.setTop (mkF m 90 #[.val (.int i1), .val (.ref b1), .val (.int (own_j0_31_0 i1)), .val (.int (own_r8 ((i1.toUInt32 >>> ((2 : Int32) &&& 31).toUInt32).toInt32) (own_r8 i1 (0 : Int32))))] [(.int (1 : Int32))])) t → Steps p.tables e below (s₁.setTop (entryFrame m #[(.int i1)] maxLocals)) t := by
          intro t k
          refine pre36 _ ?_
          show Steps p.tables e below (T31.setTop (mkF m 82 #[.val (.int i1), .val (.ref b1), .val (.int (own_j0_31_0 i1)), .val (.int (own_r8 ((i1.toUInt32 >>> ((2 : Int32) &&& 31).toUInt32).toInt32) (own_r8 i1 (0 : Int32))))] [(.int (own_j0_74_0 i1)), (.int (nar .boolean (own_j7_6_0 (own_f8_endedUnclaimed ((i1.toUInt32 >>> ((2 : Int32) &&& 31).toUInt32).toInt32) (own_f8_endedUnclaimed i1 (0 : Int64))))))])) _
          refine XS.icmpNo X31.here hx rfl (hb hby at_82) rfl (teq hc82_37).2 ?_
          show Steps p.tables e below (T31.setTop (mkF m 85 #[.val (.int i1), .val (.ref b1), .val (.int (own_j0_31_0 i1)), .val (.int (own_r8 ((i1.toUInt32 >>> ((2 : Int32) &&& 31).toUInt32).toInt32) (own_r8 i1 (0 : Int32))))] [])) _
          refine XS.iconst X31.here hx rfl (hb hby at_85) ?_
          show Steps p.tables e below (T31.setTop (mkF m 86 #[.val (.int i1), .val (.ref b1), .val (.int (own_j0_31_0 i1)), .val (.int (own_r8 ((i1.toUInt32 >>> ((2 : Int32) &&& 31).toUInt32).toInt32) (own_r8 i1 (0 : Int32))))] [(.int (1 : Int32))])) _
          refine XS.goto X31.here hx rfl (pc0 := 86) (pc' := 90) rfl (hb hby at_86) (by decide) (by decide) ?_
          exact k
        exact ⟨T31, _, X31, N31, e31, fun t k => pre38 t (by rw [show (own_j0_66_0 i1) = (1 : Int32) from ((if_neg hc66_29).trans (if_pos hc82_37))] at k; exact k)⟩
      · have pre39 : ∀ t, Steps p.tables e below (T31.setTop (mkF m 90 #[.val (.int i1), .val (.ref b1), .val (.int (own_j0_31_0 i1)), .val (.int (own_r8 ((i1.toUInt32 >>> ((2 : Int32) &&& 31).toUInt32).toInt32) (own_r8 i1 (0 : Int32))))] [(.int (0 : Int32))])) t → Steps p.tables e below (s₁.setTop (entryFrame m #[(.int i1)] maxLocals)) t := by
          intro t k
          refine pre36 _ ?_
          show Steps p.tables e below (T31.setTop (mkF m 82 #[.val (.int i1), .val (.ref b1), .val (.int (own_j0_31_0 i1)), .val (.int (own_r8 ((i1.toUInt32 >>> ((2 : Int32) &&& 31).toUInt32).toInt32) (own_r8 i1 (0 : Int32))))] [(.int (own_j0_74_0 i1)), (.int (nar .boolean (own_j7_6_0 (own_f8_endedUnclaimed ((i1.toUInt32 >>> ((2 : Int32) &&& 31).toUInt32).toInt32) (own_f8_endedUnclaimed i1 (0 : Int64))))))])) _
          refine XS.icmpYes X31.here hx rfl (pc0 := 82) (pc' := 89) rfl (hb hby at_82) rfl (feq hc82_37).2 (by decide) (by decide) ?_
          show Steps p.tables e below (T31.setTop (mkF m 89 #[.val (.int i1), .val (.ref b1), .val (.int (own_j0_31_0 i1)), .val (.int (own_r8 ((i1.toUInt32 >>> ((2 : Int32) &&& 31).toUInt32).toInt32) (own_r8 i1 (0 : Int32))))] [])) _
          refine XS.iconst X31.here hx rfl (hb hby at_89) ?_
          exact k
        exact ⟨T31, _, X31, N31, e31, fun t k => pre39 t (by rw [show (own_j0_66_0 i1) = (0 : Int32) from ((if_neg hc66_29).trans (if_neg hc82_37))] at k; exact k)⟩
  obtain ⟨_, _, ⟨T41, L41, k41, n41⟩, -, X41, ⟨Lc41, hQ41, l41, y41, z41⟩, st41⟩ := Jvm.LawKit.callS X40 hx (y := (⟨"com/example/fetchwright/fetchwright/service/ProvenanceAwaitsReferencesPinLaw", "step", "(Lcom/example/fetchwright/fetchwright/service/Provenance;II)I"⟩ : MethodName)) hown (mvT hZ (hw _ (List.mem_of_getElem? (i := 55) rfl))) (mvT hZ (hw _ (List.mem_of_getElem? (i := 56) rfl))) (mvT hZ (hw _ (List.mem_of_getElem? (i := 57) rfl))) (mvT hZ (hw _ (List.mem_of_getElem? (i := 58) rfl))) (by decide) (backOf (W := 0) (rm8 l Z a0 hw [] b1 ((i1.toUInt32 >>> ((4 : Int32) &&& 31).toUInt32).toInt32) (own_r8 ((i1.toUInt32 >>> ((2 : Int32) &&& 31).toUInt32).toInt32) (own_r8 i1 (0 : Int32))) (own_f8_endedUnclaimed ((i1.toUInt32 >>> ((2 : Int32) &&& 31).toUInt32).toInt32) (own_f8_endedUnclaimed i1 (0 : Int64))) T26.heap n0 (Nat.le_trans Z0 K27.1) f26_1 f26_0 (Nat.le_trans Z0 sz_b1)) hZ (hw _ (List.mem_of_getElem? (i := 58) rfl)) (hw _ (List.mem_of_getElem? (i := 57) rfl)) (by decide) (by decide)) (g := (mkF m 96 #[.val (.int i1), .val (.ref b1), .val (.int (own_j0_66_0 i1)), .val (.int (own_r8 ((i1.toUInt32 >>> ((2 : Int32) &&& 31).toUInt32).toInt32) (own_r8 i1 (0 : Int32))))] [(.int (own_r8 ((i1.toUInt32 >>> ((2 : Int32) &&& 31).toUInt32).toInt32) (own_r8 i1 (0 : Int32)))), (.int ((i1.toUInt32 >>> ((4 : Int32) &&& 31).toUInt32).toInt32)), (.ref b1)])) rfl (by rw [hml]; rfl) (argsL := [(.ref b1), (.int ((i1.toUInt32 >>> ((4 : Int32) &&& 31).toUInt32).toInt32)), (.int (own_r8 ((i1.toUInt32 >>> ((2 : Int32) &&& 31).toUInt32).toInt32) (own_r8 i1 (0 : Int32))))]) (rest := []) (lenOf pd_3 rfl) rfl (by show 2 * 0 + _ ≤ _; exact Nat.le_of_eq rfl) (hb hby at_96) (fun _ _ => ⟨rfl, e40, (by decide : 6 + 0 ≤ _), (by decide : 152 + 0 ≤ _)⟩)
  dsimp only [Pt.U, Pt.locs, Pt.cells, Pt.slots] at X41 l41 y41 z41 st41 hQ41
  subst l41 y41 z41
  obtain ⟨rfl, Nq41, Kq41, f41_0, f41_1⟩ := hQ41
  have K42 : Keep h0 T41.heap [] := K27.trans Kq41 (allS (Or.inr sz_b1) all0)
  have N41 := Fr.app N40 Nq41
  have pre43 : ∀ t, Steps p.tables e below (T41.setTop (mkF m 101 #[.val (.int i1), .val (.ref b1), .val (.int (own_j0_66_0 i1)), .val (.int (own_r8 ((i1.toUInt32 >>> ((4 : Int32) &&& 31).toUInt32).toInt32) (own_r8 ((i1.toUInt32 >>> ((2 : Int32) &&& 31).toUInt32).toInt32) (own_r8 i1 (0 : Int32)))))] [(.int (own_j0_66_0 i1))])) t → Steps p.tables e below (s₁.setTop (entryFrame m #[(.int i1)] maxLocals)) t := by
    intro t k
    refine pre40 _ ?_
    show Steps p.tables e below (T40.setTop (mkF m 90 #[.val (.int i1), .val (.ref b1), .val (.int (own_j0_31_0 i1)), .val (.int (own_r8 ((i1.toUInt32 >>> ((2 : Int32) &&& 31).toUInt32).toInt32) (own_r8 i1 (0 : Int32))))] [(.int (own_j0_66_0 i1))])) _
    refine XS.istoreN X40.here hx rfl (hb hby at_90) rfl (l' := #[.val (.int i1), .val (.ref b1), .val (.int (own_j0_66_0 i1)), .val (.int (own_r8 ((i1.toUInt32 >>> ((2 : Int32) &&& 31).toUInt32).toInt32) (own_r8 i1 (0 : Int32))))]) rfl ?_
    show Steps p.tables e below (T40.setTop (mkF m 91 #[.val (.int i1), .val (.ref b1), .val (.int (own_j0_66_0 i1)), .val (.int (own_r8 ((i1.toUInt32 >>> ((2 : Int32) &&& 31).toUInt32).toInt32) (own_r8 i1 (0 : Int32))))] [])) _
    refine XS.aloadN X40.here hx rfl (hb hby at_91) rfl rfl ?_
    show Steps p.tables e below (T40.setTop (mkF m 92 #[.val (.int i1), .val (.ref b1), .val (.int (own_j0_66_0 i1)), .val (.int (own_r8 ((i1.toUInt32 >>> ((2 : Int32) &&& 31).toUInt32).toInt32) (own_r8 i1 (0 : Int32))))] [(.ref b1)])) _
    refine XS.iloadN X40.here hx rfl (hb hby at_92) rfl ?_
    show Steps p.tables e below (T40.setTop (mkF m 93 #[.val (.int i1), .val (.ref b1), .val (.int (own_j0_66_0 i1)), .val (.int (own_r8 ((i1.toUInt32 >>> ((2 : Int32) &&& 31).toUInt32).toInt32) (own_r8 i1 (0 : Int32))))] [(.int i1), (.ref b1)])) _
    refine XS.iconst X40.here hx rfl (hb hby at_93) ?_
    show Steps p.tables e below (T40.setTop (mkF m 94 #[.val (.int i1), .val (.ref b1), .val (.int (own_j0_66_0 i1)), .val (.int (own_r8 ((i1.toUInt32 >>> ((2 : Int32) &&& 31).toUInt32).toInt32) (own_r8 i1 (0 : Int32))))] [(.int (4 : Int32)), (.int i1), (.ref b1)])) _
    refine XS.iushr X40.here hx rfl (hb hby at_94) rfl ?_
    show Steps p.tables e below (T40.setTop (mkF m 95 #[.val (.int i1), .val (.ref b1), .val (.int (own_j0_66_0 i1)), .val (.int (own_r8 ((i1.toUInt32 >>> ((2 : Int32) &&& 31).toUInt32).toInt32) (own_r8 i1 (0 : Int32))))] [(.int ((i1.toUInt32 >>> ((4 : Int32) &&& 31).toUInt32).toInt32)), (.ref b1)])) _
    refine XS.iloadN X40.here hx rfl (hb hby at_95) rfl ?_
    show Steps p.tables e below (T40.setTop (mkF m 96 #[.val (.int i1), .val (.ref b1), .val (.int (own_j0_66_0 i1)), .val (.int (own_r8 ((i1.toUInt32 >>> ((2 : Int32) &&& 31).toUInt32).toInt32) (own_r8 i1 (0 : Int32))))] [(.int (own_r8 ((i1.toUInt32 >>> ((2 : Int32) &&& 31).toUInt32).toInt32) (own_r8 i1 (0 : Int32)))), (.int ((i1.toUInt32 >>> ((4 : Int32) &&& 31).toUInt32).toInt32)), (.ref b1)])) _
    refine st41 _ ?_
    show Steps p.tables e below (T41.setTop (mkF m 99 #[.val (.int i1), .val (.ref b1), .val (.int (own_j0_66_0 i1)), .val (.int (own_r8 ((i1.toUInt32 >>> ((2 : Int32) &&& 31).toUInt32).toInt32) (own_r8 i1 (0 : Int32))))] [(.int (own_r8 ((i1.toUInt32 >>> ((4 : Int32) &&& 31).toUInt32).toInt32) (own_r8 ((i1.toUInt32 >>> ((2 : Int32) &&& 31).toUInt32).toInt32) (own_r8 i1 (0 : Int32)))))])) _
    refine XS.istoreN X41.here hx rfl (hb hby at_99) rfl (l' := #[.val (.int i1), .val (.ref b1), .val (.int (own_j0_66_0 i1)), .val (.int (own_r8 ((i1.toUInt32 >>> ((4 : Int32) &&& 31).toUInt32).toInt32) (own_r8 ((i1.toUInt32 >>> ((2 : Int32) &&& 31).toUInt32).toInt32) (own_r8 i1 (0 : Int32)))))]) rfl ?_
    show Steps p.tables e below (T41.setTop (mkF m 100 #[.val (.int i1), .val (.ref b1), .val (.int (own_j0_66_0 i1)), .val (.int (own_r8 ((i1.toUInt32 >>> ((4 : Int32) &&& 31).toUInt32).toInt32) (own_r8 ((i1.toUInt32 >>> ((2 : Int32) &&& 31).toUInt32).toInt32) (own_r8 i1 (0 : Int32)))))] [])) _
    refine XS.iloadN X41.here hx rfl (hb hby at_100) rfl ?_
    exact k
  obtain ⟨T55, Lq55, X55, N55, e55, pre55⟩ : ∃ (T' : State) (locs' : List Loc), Stand p l e room_1 s m #[(.int i1)] below meth c T' locs' 6 152 ∧ Fr n0 locs' ∧ T'.heap = T41.heap ∧ ∀ t, Steps p.tables e below (T'.setTop (mkF m 125 #[.val (.int i1), .val (.ref b1), .val (.int (own_j0_66_0 i1)), .val (.int (own_r8 ((i1.toUInt32 >>> ((4 : Int32) &&& 31).toUInt32).toInt32) (own_r8 ((i1.toUInt32 >>> ((2 : Int32) &&& 31).toUInt32).toInt32) (own_r8 i1 (0 : Int32)))))] [(.int (own_j0_101_0 i1))])) t → Steps p.tables e below (s₁.setTop (entryFrame m #[(.int i1)] maxLocals)) t := by
    by_cases hc101_44 : (own_j0_66_0 i1) = (0 : Int32)
    · have pre45 : ∀ t, Steps p.tables e below (T41.setTop (mkF m 125 #[.val (.int i1), .val (.ref b1), .val (.int (own_j0_66_0 i1)), .val (.int (own_r8 ((i1.toUInt32 >>> ((4 : Int32) &&& 31).toUInt32).toInt32) (own_r8 ((i1.toUInt32 >>> ((2 : Int32) &&& 31).toUInt32).toInt32) (own_r8 i1 (0 : Int32)))))] [(.int (0 : Int32))])) t → Steps p.tables e below (s₁.setTop (entryFrame m #[(.int i1)] maxLocals)) t := by
        intro t k
        refine pre43 _ ?_
        show Steps p.tables e below (T41.setTop (mkF m 101 #[.val (.int i1), .val (.ref b1), .val (.int (own_j0_66_0 i1)), .val (.int (own_r8 ((i1.toUInt32 >>> ((4 : Int32) &&& 31).toUInt32).toInt32) (own_r8 ((i1.toUInt32 >>> ((2 : Int32) &&& 31).toUInt32).toInt32) (own_r8 i1 (0 : Int32)))))] [(.int (own_j0_66_0 i1))])) _
        refine XS.ifYes X41.here hx rfl (pc0 := 101) (pc' := 124) rfl (hb hby at_101) rfl ((if0 _ _).trans (teq hc101_44).1) (by decide) (by decide) ?_
        show Steps p.tables e below (T41.setTop (mkF m 124 #[.val (.int i1), .val (.ref b1), .val (.int (own_j0_66_0 i1)), .val (.int (own_r8 ((i1.toUInt32 >>> ((4 : Int32) &&& 31).toUInt32).toInt32) (own_r8 ((i1.toUInt32 >>> ((2 : Int32) &&& 31).toUInt32).toInt32) (own_r8 i1 (0 : Int32)))))] [])) _
        refine XS.iconst X41.here hx rfl (hb hby at_124) ?_
        exact k
      exact ⟨T41, _, X41, N41, rfl, fun t k => pre45 t (by rw [show (own_j0_101_0 i1) = (0 : Int32) from (if_pos hc101_44)] at k; exact k)⟩
    · obtain ⟨cq46, kq46, q46a, q46b, q46c⟩ := isOf hZ rfl f41_0
      obtain ⟨_, _, ⟨T46, L46, k46, n46⟩, -, X46, ⟨Lc46, hQ46, l46, y46, z46⟩, st46⟩ := X41.virtualBack hx (y := (⟨"com/example/fetchwright/fetchwright/service/Provenance", "awaitsReferences", "()Z"⟩ : MethodName)) (z := (⟨"com/example/fetchwright/fetchwright/service/Provenance", "awaitsReferences", "()Z"⟩ : MethodName)) hown (mvT hZ (hw _ (List.mem_of_getElem? (i := 48) rfl))) (mvT hZ (hw _ (List.mem_of_getElem? (i := 49) rfl))) (notFace_of_selects (args := #[]) (mvT hZ (hw _ (List.mem_of_getElem? (i := 51) rfl)))) (mvT hZ (hw _ (List.mem_of_getElem? (i := 51) rfl))) (mvT hZ (hw _ (List.mem_of_getElem? (i := 50) rfl))) (by decide) (backOf (W := 0) (rm7 l Z a0 hw [] b1 (own_f8_endedUnclaimed ((i1.toUInt32 >>> ((4 : Int32) &&& 31).toUInt32).toInt32) (own_f8_endedUnclaimed ((i1.toUInt32 >>> ((2 : Int32) &&& 31).toUInt32).toInt32) (own_f8_endedUnclaimed i1 (0 : Int64)))) T41.heap n0 (Nat.le_trans Z0 K42.1) f41_1) hZ (hw _ (List.mem_of_getElem? (i := 52) rfl)) (hw _ (List.mem_of_getElem? (i := 2) rfl)) (by decide) (by decide)) q46a q46c (g := (mkF m 105 #[.val (.int i1), .val (.ref b1), .val (.int (own_j0_66_0 i1)), .val (.int (own_r8 ((i1.toUInt32 >>> ((4 : Int32) &&& 31).toUInt32).toInt32) (own_r8 ((i1.toUInt32 >>> ((2 : Int32) &&& 31).toUInt32).toInt32) (own_r8 i1 (0 : Int32)))))] [(.ref b1)])) rfl (by rw [hml]; rfl) (Steps.refl _) (argsL := []) (rest := []) (lenOf pd_2 rfl) rfl (by show 2 * 0 + _ ≤ _; exact Nat.le_of_eq rfl) (hb hby at_105) (fun _ _ => ⟨rfl, rfl, (by decide : 6 + 0 ≤ _), (by decide : 152 + 0 ≤ _)⟩)
      dsimp only [Pt.U, Pt.locs, Pt.cells, Pt.slots] at X46 l46 y46 z46 st46 hQ46
      subst l46 y46 z46
      obtain ⟨rfl, Nq46, e46⟩ := hQ46
      have N46 := Fr.app N41 Nq46
      have pre47 : ∀ t, Steps p.tables e below (T46.setTop (mkF m 109 #[.val (.int i1), .val (.ref b1), .val (.int (own_j0_66_0 i1)), .val (.int (own_r8 ((i1.toUInt32 >>> ((4 : Int32) &&& 31).toUInt32).toInt32) (own_r8 ((i1.toUInt32 >>> ((2 : Int32) &&& 31).toUInt32).toInt32) (own_r8 i1 (0 : Int32)))))] [(.int (own_r8 ((i1.toUInt32 >>> ((4 : Int32) &&& 31).toUInt32).toInt32) (own_r8 ((i1.toUInt32 >>> ((2 : Int32) &&& 31).toUInt32).toInt32) (own_r8 i1 (0 : Int32))))), (.int (nar .boolean (own_j7_6_0 (own_f8_endedUnclaimed ((i1.toUInt32 >>> ((4 : Int32) &&& 31).toUInt32).toInt32) (own_f8_endedUnclaimed ((i1.toUInt32 >>> ((2 : Int32) &&& 31).toUInt32).toInt32) (own_f8_endedUnclaimed i1 (0 : Int64)))))))])) t → Steps p.tables e below (s₁.setTop (entryFrame m #[(.int i1)] maxLocals)) t := by
        intro t k
        refine pre43 _ ?_
        show Steps p.tables e below (T41.setTop (mkF m 101 #[.val (.int i1), .val (.ref b1), .val (.int (own_j0_66_0 i1)), .val (.int (own_r8 ((i1.toUInt32 >>> ((4 : Int32) &&& 31).toUInt32).toInt32) (own_r8 ((i1.toUInt32 >>> ((2 : Int32) &&& 31).toUInt32).toInt32) (own_r8 i1 (0 : Int32)))))] [(.int (own_j0_66_0 i1))])) _
        refine XS.ifNo X41.here hx rfl (hb hby at_101) rfl ((if0 _ _).trans (feq hc101_44).1) ?_
        show Steps p.tables e below (T41.setTop (mkF m 104 #[.val (.int i1), .val (.ref b1), .val (.int (own_j0_66_0 i1)), .val (.int (own_r8 ((i1.toUInt32 >>> ((4 : Int32) &&& 31).toUInt32).toInt32) (own_r8 ((i1.toUInt32 >>> ((2 : Int32) &&& 31).toUInt32).toInt32) (own_r8 i1 (0 : Int32)))))] [])) _
        refine XS.aloadN X41.here hx rfl (hb hby at_104) rfl rfl ?_
        show Steps p.tables e below (T41.setTop (mkF m 105 #[.val (.int i1), .val (.ref b1), .val (.int (own_j0_66_0 i1)), .val (.int (own_r8 ((i1.toUInt32 >>> ((4 : Int32) &&& 31).toUInt32).toInt32) (own_r8 ((i1.toUInt32 >>> ((2 : Int32) &&& 31).toUInt32).toInt32) (own_r8 i1 (0 : Int32)))))] [(.ref b1)])) _
        refine st46.trans ?_
        show Steps p.tables e below (T46.setTop (mkF m 108 #[.val (.int i1), .val (.ref b1), .val (.int (own_j0_66_0 i1)), .val (.int (own_r8 ((i1.toUInt32 >>> ((4 : Int32) &&& 31).toUInt32).toInt32) (own_r8 ((i1.toUInt32 >>> ((2 : Int32) &&& 31).toUInt32).toInt32) (own_r8 i1 (0 : Int32)))))] [(.int (nar .boolean (own_j7_6_0 (own_f8_endedUnclaimed ((i1.toUInt32 >>> ((4 : Int32) &&& 31).toUInt32).toInt32) (own_f8_endedUnclaimed ((i1.toUInt32 >>> ((2 : Int32) &&& 31).toUInt32).toInt32) (own_f8_endedUnclaimed i1 (0 : Int64)))))))])) _
        refine XS.iloadN X46.here hx rfl (hb hby at_108) rfl ?_
        exact k
      have pre51 : ∀ t, Steps p.tables e below (T46.setTop (mkF m 117 #[.val (.int i1), .val (.ref b1), .val (.int (own_j0_66_0 i1)), .val (.int (own_r8 ((i1.toUInt32 >>> ((4 : Int32) &&& 31).toUInt32).toInt32) (own_r8 ((i1.toUInt32 >>> ((2 : Int32) &&& 31).toUInt32).toInt32) (own_r8 i1 (0 : Int32)))))] [(.int (own_j0_109_0 i1)), (.int (nar .boolean (own_j7_6_0 (own_f8_endedUnclaimed ((i1.toUInt32 >>> ((4 : Int32) &&& 31).toUInt32).toInt32) (own_f8_endedUnclaimed ((i1.toUInt32 >>> ((2 : Int32) &&& 31).toUInt32).toInt32) (own_f8_endedUnclaimed i1 (0 : Int64)))))))])) t → Steps p.tables e below (s₁.setTop (entryFrame m #[(.int i1)] maxLocals)) t := by
        by_cases hc109_48 : (0 : Int32) < (own_r8 ((i1.toUInt32 >>> ((4 : Int32) &&& 31).toUInt32).toInt32) (own_r8 ((i1.toUInt32 >>> ((2 : Int32) &&& 31).toUInt32).toInt32) (own_r8 i1 (0 : Int32))))
        · have pre49 : ∀ t, Steps p.tables e below (T46.setTop (mkF m 117 #[.val (.int i1), .val (.ref b1), .val (.int (own_j0_66_0 i1)), .val (.int (own_r8 ((i1.toUInt32 >>> ((4 : Int32) &&& 31).toUInt32).toInt32) (own_r8 ((i1.toUInt32 >>> ((2 : Int32) &&& 31).toUInt32).toInt32) (own_r8 i1 (0 : Int32)))))] [(.int (1 : Int32)), (.int (nar .boolean (own_j7_6_0 (own_f8_endedUnclaimed ((i1.toUInt32 >>> ((4 : Int32) &&& 31).toUInt32).toInt32) (own_f8_endedUnclaimed ((i1.toUInt32 >>> ((2 : Int32) &&& 31).toUInt32).toInt32) (own_f8_endedUnclaimed i1 (0 : Int64)))))))])) t → Steps p.tables e below (s₁.setTop (entryFrame m #[(.int i1)] maxLocals)) t := by
            intro t k
            refine pre47 _ ?_
            show Steps p.tables e below (T46.setTop (mkF m 109 #[.val (.int i1), .val (.ref b1), .val (.int (own_j0_66_0 i1)), .val (.int (own_r8 ((i1.toUInt32 >>> ((4 : Int32) &&& 31).toUInt32).toInt32) (own_r8 ((i1.toUInt32 >>> ((2 : Int32) &&& 31).toUInt32).toInt32) (own_r8 i1 (0 : Int32)))))] [(.int (own_r8 ((i1.toUInt32 >>> ((4 : Int32) &&& 31).toUInt32).toInt32) (own_r8 ((i1.toUInt32 >>> ((2 : Int32) &&& 31).toUInt32).toInt32) (own_r8 i1 (0 : Int32))))), (.int (nar .boolean (own_j7_6_0 (own_f8_endedUnclaimed ((i1.toUInt32 >>> ((4 : Int32) &&& 31).toUInt32).toInt32) (own_f8_endedUnclaimed ((i1.toUInt32 >>> ((2 : Int32) &&& 31).toUInt32).toInt32) (own_f8_endedUnclaimed i1 (0 : Int64)))))))])) _
            refine XS.ifNo X46.here hx rfl (hb hby at_109) rfl ((if0 _ _).trans (tlt hc109_48).2.2.2) ?_
            show Steps p.tables e below (T46.setTop (mkF m 112 #[.val (.int i1), .val (.ref b1), .val (.int (own_j0_66_0 i1)), .val (.int (own_r8 ((i1.toUInt32 >>> ((4 : Int32) &&& 31).toUInt32).toInt32) (own_r8 ((i1.toUInt32 >>> ((2 : Int32) &&& 31).toUInt32).toInt32) (own_r8 i1 (0 : Int32)))))] [(.int (nar .boolean (own_j7_6_0 (own_f8_endedUnclaimed ((i1.toUInt32 >>> ((4 : Int32) &&& 31).toUInt32).toInt32) (own_f8_endedUnclaimed ((i1.toUInt32 >>> ((2 : Int32) &&& 31).toUInt32).toInt32) (own_f8_endedUnclaimed i1 (0 : Int64)))))))])) _
            refine XS.iconst X46.here hx rfl (hb hby at_112) ?_
            show Steps p.tables e below (T46.setTop (mkF m 113 #[.val (.int i1), .val (.ref b1), .val (.int (own_j0_66_0 i1)), .val (.int (own_r8 ((i1.toUInt32 >>> ((4 : Int32) &&& 31).toUInt32).toInt32) (own_r8 ((i1.toUInt32 >>> ((2 : Int32) &&& 31).toUInt32).toInt32) (own_r8 i1 (0 : Int32)))))] [(.int (1 : Int32)), (.int (nar .boolean (own_j7_6_0 (own_f8_endedUnclaimed ((i1.toUInt32 >>> ((4 : Int32) &&& 31).toUInt32).toInt32) (own_f8_endedUnclaimed ((i1.toUInt32 >>> ((2 : Int32) &&& 31).toUInt32).toInt32) (own_f8_endedUnclaimed i1 (0 : Int64)))))))])) _
            refine XS.goto X46.here hx rfl (pc0 := 113) (pc' := 117) rfl (hb hby at_113) (by decide) (by decide) ?_
            exact k
          exact fun t k => pre49 t (by rw [show (own_j0_109_0 i1) = (1 : Int32) from (if_pos hc109_48)] at k; exact k)
        · have pre50 : ∀ t, Steps p.tables e below (T46.setTop (mkF m 117 #[.val (.int i1), .val (.ref b1), .val (.int (own_j0_66_0 i1)), .val (.int (own_r8 ((i1.toUInt32 >>> ((4 : Int32) &&& 31).toUInt32).toInt32) (own_r8 ((i1.toUInt32 >>> ((2 : Int32) &&& 31).toUInt32).toInt32) (own_r8 i1 (0 : Int32)))))] [(.int (0 : Int32)), (.int (nar .boolean (own_j7_6_0 (own_f8_endedUnclaimed ((i1.toUInt32 >>> ((4 : Int32) &&& 31).toUInt32).toInt32) (own_f8_endedUnclaimed ((i1.toUInt32 >>> ((2 : Int32) &&& 31).toUInt32).toInt32) (own_f8_endedUnclaimed i1 (0 : Int64)))))))])) t → Steps p.tables e below (s₁.setTop (entryFrame m #[(.int i1)] maxLocals)) t := by
            intro t k
            refine pre47 _ ?_
            show Steps p.tables e below (T46.setTop (mkF m 109 #[.val (.int i1), .val (.ref b1), .val (.int (own_j0_66_0 i1)), .val (.int (own_r8 ((i1.toUInt32 >>> ((4 : Int32) &&& 31).toUInt32).toInt32) (own_r8 ((i1.toUInt32 >>> ((2 : Int32) &&& 31).toUInt32).toInt32) (own_r8 i1 (0 : Int32)))))] [(.int (own_r8 ((i1.toUInt32 >>> ((4 : Int32) &&& 31).toUInt32).toInt32) (own_r8 ((i1.toUInt32 >>> ((2 : Int32) &&& 31).toUInt32).toInt32) (own_r8 i1 (0 : Int32))))), (.int (nar .boolean (own_j7_6_0 (own_f8_endedUnclaimed ((i1.toUInt32 >>> ((4 : Int32) &&& 31).toUInt32).toInt32) (own_f8_endedUnclaimed ((i1.toUInt32 >>> ((2 : Int32) &&& 31).toUInt32).toInt32) (own_f8_endedUnclaimed i1 (0 : Int64)))))))])) _
            refine XS.ifYes X46.here hx rfl (pc0 := 109) (pc' := 116) rfl (hb hby at_109) rfl ((if0 _ _).trans (flt hc109_48).2.2.2) (by decide) (by decide) ?_
            show Steps p.tables e below (T46.setTop (mkF m 116 #[.val (.int i1), .val (.ref b1), .val (.int (own_j0_66_0 i1)), .val (.int (own_r8 ((i1.toUInt32 >>> ((4 : Int32) &&& 31).toUInt32).toInt32) (own_r8 ((i1.toUInt32 >>> ((2 : Int32) &&& 31).toUInt32).toInt32) (own_r8 i1 (0 : Int32)))))] [(.int (nar .boolean (own_j7_6_0 (own_f8_endedUnclaimed ((i1.toUInt32 >>> ((4 : Int32) &&& 31).toUInt32).toInt32) (own_f8_endedUnclaimed ((i1.toUInt32 >>> ((2 : Int32) &&& 31).toUInt32).toInt32) (own_f8_endedUnclaimed i1 (0 : Int64)))))))])) _
            refine XS.iconst X46.here hx rfl (hb hby at_116) ?_
            exact k
          exact fun t k => pre50 t (by rw [show (own_j0_109_0 i1) = (0 : Int32) from (if_neg hc109_48)] at k; exact k)
      by_cases hc117_52 : (nar .boolean (own_j7_6_0 (own_f8_endedUnclaimed ((i1.toUInt32 >>> ((4 : Int32) &&& 31).toUInt32).toInt32) (own_f8_endedUnclaimed ((i1.toUInt32 >>> ((2 : Int32) &&& 31).toUInt32).toInt32) (own_f8_endedUnclaimed i1 (0 : Int64)))))) = (own_j0_109_0 i1)
      · have pre53 : ∀ t, Steps p.tables e below (T46.setTop (mkF m 125 #[.val (.int i1), .val (.ref b1), .val (.int (own_j0_66_0 i1)), .val (.int (own_r8 ((i1.toUInt32 >>> ((4 : Int32) &&& 31).toUInt32).toInt32) (own_r8 ((i1.toUInt32 >>> ((2 : Int32) &&& 31).toUInt32).toInt32) (own_r8 i1 (0 : Int32)))))] [(.int (1 : Int32))])) t → Steps p.tables e below (s₁.setTop (entryFrame m #[(.int i1)] maxLocals)) t := by
          intro t k
          refine pre51 _ ?_
          show Steps p.tables e below (T46.setTop (mkF m 117 #[.val (.int i1), .val (.ref b1), .val (.int (own_j0_66_0 i1)), .val (.int (own_r8 ((i1.toUInt32 >>> ((4 : Int32) &&& 31).toUInt32).toInt32) (own_r8 ((i1.toUInt32 >>> ((2 : Int32) &&& 31).toUInt32).toInt32) (own_r8 i1 (0 : Int32)))))] [(.int (own_j0_109_0 i1)), (.int (nar .boolean (own_j7_6_0 (own_f8_endedUnclaimed ((i1.toUInt32 >>> ((4 : Int32) &&& 31).toUInt32).toInt32) (own_f8_endedUnclaimed ((i1.toUInt32 >>> ((2 : Int32) &&& 31).toUInt32).toInt32) (own_f8_endedUnclaimed i1 (0 : Int64)))))))])) _
          refine XS.icmpNo X46.here hx rfl (hb hby at_117) rfl (teq hc117_52).2 ?_
          show Steps p.tables e below (T46.setTop (mkF m 120 #[.val (.int i1), .val (.ref b1), .val (.int (own_j0_66_0 i1)), .val (.int (own_r8 ((i1.toUInt32 >>> ((4 : Int32) &&& 31).toUInt32).toInt32) (own_r8 ((i1.toUInt32 >>> ((2 : Int32) &&& 31).toUInt32).toInt32) (own_r8 i1 (0 : Int32)))))] [])) _
          refine XS.iconst X46.here hx rfl (hb hby at_120) ?_
          show Steps p.tables e below (T46.setTop (mkF m 121 #[.val (.int i1), .val (.ref b1), .val (.int (own_j0_66_0 i1)), .val (.int (own_r8 ((i1.toUInt32 >>> ((4 : Int32) &&& 31).toUInt32).toInt32) (own_r8 ((i1.toUInt32 >>> ((2 : Int32) &&& 31).toUInt32).toInt32) (own_r8 i1 (0 : Int32)))))] [(.int (1 : Int32))])) _
          refine XS.goto X46.here hx rfl (pc0 := 121) (pc' := 125) rfl (hb hby at_121) (by decide) (by decide) ?_
          exact k
        exact ⟨T46, _, X46, N46, e46, fun t k => pre53 t (by rw [show (own_j0_101_0 i1) = (1 : Int32) from ((if_neg hc101_44).trans (if_pos hc117_52))] at k; exact k)⟩
      · have pre54 : ∀ t, Steps p.tables e below (T46.setTop (mkF m 125 #[.val (.int i1), .val (.ref b1), .val (.int (own_j0_66_0 i1)), .val (.int (own_r8 ((i1.toUInt32 >>> ((4 : Int32) &&& 31).toUInt32).toInt32) (own_r8 ((i1.toUInt32 >>> ((2 : Int32) &&& 31).toUInt32).toInt32) (own_r8 i1 (0 : Int32)))))] [(.int (0 : Int32))])) t → Steps p.tables e below (s₁.setTop (entryFrame m #[(.int i1)] maxLocals)) t := by
          intro t k
          refine pre51 _ ?_
          show Steps p.tables e below (T46.setTop (mkF m 117 #[.val (.int i1), .val (.ref b1), .val (.int (own_j0_66_0 i1)), .val (.int (own_r8 ((i1.toUInt32 >>> ((4 : Int32) &&& 31).toUInt32).toInt32) (own_r8 ((i1.toUInt32 >>> ((2 : Int32) &&& 31).toUInt32).toInt32) (own_r8 i1 (0 : Int32)))))] [(.int (own_j0_109_0 i1)), (.int (nar .boolean (own_j7_6_0 (own_f8_endedUnclaimed ((i1.toUInt32 >>> ((4 : Int32) &&& 31).toUInt32).toInt32) (own_f8_endedUnclaimed ((i1.toUInt32 >>> ((2 : Int32) &&& 31).toUInt32).toInt32) (own_f8_endedUnclaimed i1 (0 : Int64)))))))])) _
          refine XS.icmpYes X46.here hx rfl (pc0 := 117) (pc' := 124) rfl (hb hby at_117) rfl (feq hc117_52).2 (by decide) (by decide) ?_
          show Steps p.tables e below (T46.setTop (mkF m 124 #[.val (.int i1), .val (.ref b1), .val (.int (own_j0_66_0 i1)), .val (.int (own_r8 ((i1.toUInt32 >>> ((4 : Int32) &&& 31).toUInt32).toInt32) (own_r8 ((i1.toUInt32 >>> ((2 : Int32) &&& 31).toUInt32).toInt32) (own_r8 i1 (0 : Int32)))))] [])) _
          refine XS.iconst X46.here hx rfl (hb hby at_124) ?_
          exact k
        exact ⟨T46, _, X46, N46, e46, fun t k => pre54 t (by rw [show (own_j0_101_0 i1) = (0 : Int32) from ((if_neg hc101_44).trans (if_neg hc117_52))] at k; exact k)⟩
  obtain ⟨_, _, ⟨T56, L56, k56, n56⟩, -, X56, ⟨Lc56, hQ56, l56, y56, z56⟩, st56⟩ := Jvm.LawKit.callS X55 hx (y := (⟨"com/example/fetchwright/fetchwright/service/ProvenanceAwaitsReferencesPinLaw", "step", "(Lcom/example/fetchwright/fetchwright/service/Provenance;II)I"⟩ : MethodName)) hown (mvT hZ (hw _ (List.mem_of_getElem? (i := 55) rfl))) (mvT hZ (hw _ (List.mem_of_getElem? (i := 56) rfl))) (mvT hZ (hw _ (List.mem_of_getElem? (i := 57) rfl))) (mvT hZ (hw _ (List.mem_of_getElem? (i := 58) rfl))) (by decide) (backOf (W := 0) (rm8 l Z a0 hw [] b1 ((i1.toUInt32 >>> ((6 : Int32) &&& 31).toUInt32).toInt32) (own_r8 ((i1.toUInt32 >>> ((4 : Int32) &&& 31).toUInt32).toInt32) (own_r8 ((i1.toUInt32 >>> ((2 : Int32) &&& 31).toUInt32).toInt32) (own_r8 i1 (0 : Int32)))) (own_f8_endedUnclaimed ((i1.toUInt32 >>> ((4 : Int32) &&& 31).toUInt32).toInt32) (own_f8_endedUnclaimed ((i1.toUInt32 >>> ((2 : Int32) &&& 31).toUInt32).toInt32) (own_f8_endedUnclaimed i1 (0 : Int64)))) T41.heap n0 (Nat.le_trans Z0 K42.1) f41_1 f41_0 (Nat.le_trans Z0 sz_b1)) hZ (hw _ (List.mem_of_getElem? (i := 58) rfl)) (hw _ (List.mem_of_getElem? (i := 57) rfl)) (by decide) (by decide)) (g := (mkF m 132 #[.val (.int i1), .val (.ref b1), .val (.int (own_j0_101_0 i1)), .val (.int (own_r8 ((i1.toUInt32 >>> ((4 : Int32) &&& 31).toUInt32).toInt32) (own_r8 ((i1.toUInt32 >>> ((2 : Int32) &&& 31).toUInt32).toInt32) (own_r8 i1 (0 : Int32)))))] [(.int (own_r8 ((i1.toUInt32 >>> ((4 : Int32) &&& 31).toUInt32).toInt32) (own_r8 ((i1.toUInt32 >>> ((2 : Int32) &&& 31).toUInt32).toInt32) (own_r8 i1 (0 : Int32))))), (.int ((i1.toUInt32 >>> ((6 : Int32) &&& 31).toUInt32).toInt32)), (.ref b1)])) rfl (by rw [hml]; rfl) (argsL := [(.ref b1), (.int ((i1.toUInt32 >>> ((6 : Int32) &&& 31).toUInt32).toInt32)), (.int (own_r8 ((i1.toUInt32 >>> ((4 : Int32) &&& 31).toUInt32).toInt32) (own_r8 ((i1.toUInt32 >>> ((2 : Int32) &&& 31).toUInt32).toInt32) (own_r8 i1 (0 : Int32)))))]) (rest := []) (lenOf pd_3 rfl) rfl (by show 2 * 0 + _ ≤ _; exact Nat.le_of_eq rfl) (hb hby at_132) (fun _ _ => ⟨rfl, e55, (by decide : 6 + 0 ≤ _), (by decide : 152 + 0 ≤ _)⟩)
  dsimp only [Pt.U, Pt.locs, Pt.cells, Pt.slots] at X56 l56 y56 z56 st56 hQ56
  subst l56 y56 z56
  obtain ⟨rfl, Nq56, Kq56, f56_0, f56_1⟩ := hQ56
  have K57 : Keep h0 T56.heap [] := K42.trans Kq56 (allS (Or.inr sz_b1) all0)
  have N56 := Fr.app N55 Nq56
  have pre58 : ∀ t, Steps p.tables e below (T56.setTop (mkF m 137 #[.val (.int i1), .val (.ref b1), .val (.int (own_j0_101_0 i1)), .val (.int (own_r8 ((i1.toUInt32 >>> ((6 : Int32) &&& 31).toUInt32).toInt32) (own_r8 ((i1.toUInt32 >>> ((4 : Int32) &&& 31).toUInt32).toInt32) (own_r8 ((i1.toUInt32 >>> ((2 : Int32) &&& 31).toUInt32).toInt32) (own_r8 i1 (0 : Int32))))))] [(.int (own_j0_101_0 i1))])) t → Steps p.tables e below (s₁.setTop (entryFrame m #[(.int i1)] maxLocals)) t := by
    intro t k
    refine pre55 _ ?_
    show Steps p.tables e below (T55.setTop (mkF m 125 #[.val (.int i1), .val (.ref b1), .val (.int (own_j0_66_0 i1)), .val (.int (own_r8 ((i1.toUInt32 >>> ((4 : Int32) &&& 31).toUInt32).toInt32) (own_r8 ((i1.toUInt32 >>> ((2 : Int32) &&& 31).toUInt32).toInt32) (own_r8 i1 (0 : Int32)))))] [(.int (own_j0_101_0 i1))])) _
    refine XS.istoreN X55.here hx rfl (hb hby at_125) rfl (l' := #[.val (.int i1), .val (.ref b1), .val (.int (own_j0_101_0 i1)), .val (.int (own_r8 ((i1.toUInt32 >>> ((4 : Int32) &&& 31).toUInt32).toInt32) (own_r8 ((i1.toUInt32 >>> ((2 : Int32) &&& 31).toUInt32).toInt32) (own_r8 i1 (0 : Int32)))))]) rfl ?_
    show Steps p.tables e below (T55.setTop (mkF m 126 #[.val (.int i1), .val (.ref b1), .val (.int (own_j0_101_0 i1)), .val (.int (own_r8 ((i1.toUInt32 >>> ((4 : Int32) &&& 31).toUInt32).toInt32) (own_r8 ((i1.toUInt32 >>> ((2 : Int32) &&& 31).toUInt32).toInt32) (own_r8 i1 (0 : Int32)))))] [])) _
    refine XS.aloadN X55.here hx rfl (hb hby at_126) rfl rfl ?_
    show Steps p.tables e below (T55.setTop (mkF m 127 #[.val (.int i1), .val (.ref b1), .val (.int (own_j0_101_0 i1)), .val (.int (own_r8 ((i1.toUInt32 >>> ((4 : Int32) &&& 31).toUInt32).toInt32) (own_r8 ((i1.toUInt32 >>> ((2 : Int32) &&& 31).toUInt32).toInt32) (own_r8 i1 (0 : Int32)))))] [(.ref b1)])) _
    refine XS.iloadN X55.here hx rfl (hb hby at_127) rfl ?_
    show Steps p.tables e below (T55.setTop (mkF m 128 #[.val (.int i1), .val (.ref b1), .val (.int (own_j0_101_0 i1)), .val (.int (own_r8 ((i1.toUInt32 >>> ((4 : Int32) &&& 31).toUInt32).toInt32) (own_r8 ((i1.toUInt32 >>> ((2 : Int32) &&& 31).toUInt32).toInt32) (own_r8 i1 (0 : Int32)))))] [(.int i1), (.ref b1)])) _
    refine XS.bipush X55.here hx rfl (hb hby at_128) ?_
    show Steps p.tables e below (T55.setTop (mkF m 130 #[.val (.int i1), .val (.ref b1), .val (.int (own_j0_101_0 i1)), .val (.int (own_r8 ((i1.toUInt32 >>> ((4 : Int32) &&& 31).toUInt32).toInt32) (own_r8 ((i1.toUInt32 >>> ((2 : Int32) &&& 31).toUInt32).toInt32) (own_r8 i1 (0 : Int32)))))] [(.int (6 : Int32)), (.int i1), (.ref b1)])) _
    refine XS.iushr X55.here hx rfl (hb hby at_130) rfl ?_
    show Steps p.tables e below (T55.setTop (mkF m 131 #[.val (.int i1), .val (.ref b1), .val (.int (own_j0_101_0 i1)), .val (.int (own_r8 ((i1.toUInt32 >>> ((4 : Int32) &&& 31).toUInt32).toInt32) (own_r8 ((i1.toUInt32 >>> ((2 : Int32) &&& 31).toUInt32).toInt32) (own_r8 i1 (0 : Int32)))))] [(.int ((i1.toUInt32 >>> ((6 : Int32) &&& 31).toUInt32).toInt32)), (.ref b1)])) _
    refine XS.iloadN X55.here hx rfl (hb hby at_131) rfl ?_
    show Steps p.tables e below (T55.setTop (mkF m 132 #[.val (.int i1), .val (.ref b1), .val (.int (own_j0_101_0 i1)), .val (.int (own_r8 ((i1.toUInt32 >>> ((4 : Int32) &&& 31).toUInt32).toInt32) (own_r8 ((i1.toUInt32 >>> ((2 : Int32) &&& 31).toUInt32).toInt32) (own_r8 i1 (0 : Int32)))))] [(.int (own_r8 ((i1.toUInt32 >>> ((4 : Int32) &&& 31).toUInt32).toInt32) (own_r8 ((i1.toUInt32 >>> ((2 : Int32) &&& 31).toUInt32).toInt32) (own_r8 i1 (0 : Int32))))), (.int ((i1.toUInt32 >>> ((6 : Int32) &&& 31).toUInt32).toInt32)), (.ref b1)])) _
    refine st56 _ ?_
    show Steps p.tables e below (T56.setTop (mkF m 135 #[.val (.int i1), .val (.ref b1), .val (.int (own_j0_101_0 i1)), .val (.int (own_r8 ((i1.toUInt32 >>> ((4 : Int32) &&& 31).toUInt32).toInt32) (own_r8 ((i1.toUInt32 >>> ((2 : Int32) &&& 31).toUInt32).toInt32) (own_r8 i1 (0 : Int32)))))] [(.int (own_r8 ((i1.toUInt32 >>> ((6 : Int32) &&& 31).toUInt32).toInt32) (own_r8 ((i1.toUInt32 >>> ((4 : Int32) &&& 31).toUInt32).toInt32) (own_r8 ((i1.toUInt32 >>> ((2 : Int32) &&& 31).toUInt32).toInt32) (own_r8 i1 (0 : Int32))))))])) _
    refine XS.istoreN X56.here hx rfl (hb hby at_135) rfl (l' := #[.val (.int i1), .val (.ref b1), .val (.int (own_j0_101_0 i1)), .val (.int (own_r8 ((i1.toUInt32 >>> ((6 : Int32) &&& 31).toUInt32).toInt32) (own_r8 ((i1.toUInt32 >>> ((4 : Int32) &&& 31).toUInt32).toInt32) (own_r8 ((i1.toUInt32 >>> ((2 : Int32) &&& 31).toUInt32).toInt32) (own_r8 i1 (0 : Int32))))))]) rfl ?_
    show Steps p.tables e below (T56.setTop (mkF m 136 #[.val (.int i1), .val (.ref b1), .val (.int (own_j0_101_0 i1)), .val (.int (own_r8 ((i1.toUInt32 >>> ((6 : Int32) &&& 31).toUInt32).toInt32) (own_r8 ((i1.toUInt32 >>> ((4 : Int32) &&& 31).toUInt32).toInt32) (own_r8 ((i1.toUInt32 >>> ((2 : Int32) &&& 31).toUInt32).toInt32) (own_r8 i1 (0 : Int32))))))] [])) _
    refine XS.iloadN X56.here hx rfl (hb hby at_136) rfl ?_
    exact k
  obtain ⟨T70, Lq70, X70, N70, e70, pre70⟩ : ∃ (T' : State) (locs' : List Loc), Stand p l e room_1 s m #[(.int i1)] below meth c T' locs' 6 152 ∧ Fr n0 locs' ∧ T'.heap = T56.heap ∧ ∀ t, Steps p.tables e below (T'.setTop (mkF m 161 #[.val (.int i1), .val (.ref b1), .val (.int (own_j0_101_0 i1)), .val (.int (own_r8 ((i1.toUInt32 >>> ((6 : Int32) &&& 31).toUInt32).toInt32) (own_r8 ((i1.toUInt32 >>> ((4 : Int32) &&& 31).toUInt32).toInt32) (own_r8 ((i1.toUInt32 >>> ((2 : Int32) &&& 31).toUInt32).toInt32) (own_r8 i1 (0 : Int32))))))] [(.int (own_j0_137_0 i1))])) t → Steps p.tables e below (s₁.setTop (entryFrame m #[(.int i1)] maxLocals)) t := by
    by_cases hc137_59 : (own_j0_101_0 i1) = (0 : Int32)
    · have pre60 : ∀ t, Steps p.tables e below (T56.setTop (mkF m 161 #[.val (.int i1), .val (.ref b1), .val (.int (own_j0_101_0 i1)), .val (.int (own_r8 ((i1.toUInt32 >>> ((6 : Int32) &&& 31).toUInt32).toInt32) (own_r8 ((i1.toUInt32 >>> ((4 : Int32) &&& 31).toUInt32).toInt32) (own_r8 ((i1.toUInt32 >>> ((2 : Int32) &&& 31).toUInt32).toInt32) (own_r8 i1 (0 : Int32))))))] [(.int (0 : Int32))])) t → Steps p.tables e below (s₁.setTop (entryFrame m #[(.int i1)] maxLocals)) t := by
        intro t k
        refine pre58 _ ?_
        show Steps p.tables e below (T56.setTop (mkF m 137 #[.val (.int i1), .val (.ref b1), .val (.int (own_j0_101_0 i1)), .val (.int (own_r8 ((i1.toUInt32 >>> ((6 : Int32) &&& 31).toUInt32).toInt32) (own_r8 ((i1.toUInt32 >>> ((4 : Int32) &&& 31).toUInt32).toInt32) (own_r8 ((i1.toUInt32 >>> ((2 : Int32) &&& 31).toUInt32).toInt32) (own_r8 i1 (0 : Int32))))))] [(.int (own_j0_101_0 i1))])) _
        refine XS.ifYes X56.here hx rfl (pc0 := 137) (pc' := 160) rfl (hb hby at_137) rfl ((if0 _ _).trans (teq hc137_59).1) (by decide) (by decide) ?_
        show Steps p.tables e below (T56.setTop (mkF m 160 #[.val (.int i1), .val (.ref b1), .val (.int (own_j0_101_0 i1)), .val (.int (own_r8 ((i1.toUInt32 >>> ((6 : Int32) &&& 31).toUInt32).toInt32) (own_r8 ((i1.toUInt32 >>> ((4 : Int32) &&& 31).toUInt32).toInt32) (own_r8 ((i1.toUInt32 >>> ((2 : Int32) &&& 31).toUInt32).toInt32) (own_r8 i1 (0 : Int32))))))] [])) _
        refine XS.iconst X56.here hx rfl (hb hby at_160) ?_
        exact k
      exact ⟨T56, _, X56, N56, rfl, fun t k => pre60 t (by rw [show (own_j0_137_0 i1) = (0 : Int32) from (if_pos hc137_59)] at k; exact k)⟩
    · obtain ⟨cq61, kq61, q61a, q61b, q61c⟩ := isOf hZ rfl f56_0
      obtain ⟨_, _, ⟨T61, L61, k61, n61⟩, -, X61, ⟨Lc61, hQ61, l61, y61, z61⟩, st61⟩ := X56.virtualBack hx (y := (⟨"com/example/fetchwright/fetchwright/service/Provenance", "awaitsReferences", "()Z"⟩ : MethodName)) (z := (⟨"com/example/fetchwright/fetchwright/service/Provenance", "awaitsReferences", "()Z"⟩ : MethodName)) hown (mvT hZ (hw _ (List.mem_of_getElem? (i := 48) rfl))) (mvT hZ (hw _ (List.mem_of_getElem? (i := 49) rfl))) (notFace_of_selects (args := #[]) (mvT hZ (hw _ (List.mem_of_getElem? (i := 51) rfl)))) (mvT hZ (hw _ (List.mem_of_getElem? (i := 51) rfl))) (mvT hZ (hw _ (List.mem_of_getElem? (i := 50) rfl))) (by decide) (backOf (W := 0) (rm7 l Z a0 hw [] b1 (own_f8_endedUnclaimed ((i1.toUInt32 >>> ((6 : Int32) &&& 31).toUInt32).toInt32) (own_f8_endedUnclaimed ((i1.toUInt32 >>> ((4 : Int32) &&& 31).toUInt32).toInt32) (own_f8_endedUnclaimed ((i1.toUInt32 >>> ((2 : Int32) &&& 31).toUInt32).toInt32) (own_f8_endedUnclaimed i1 (0 : Int64))))) T56.heap n0 (Nat.le_trans Z0 K57.1) f56_1) hZ (hw _ (List.mem_of_getElem? (i := 52) rfl)) (hw _ (List.mem_of_getElem? (i := 2) rfl)) (by decide) (by decide)) q61a q61c (g := (mkF m 141 #[.val (.int i1), .val (.ref b1), .val (.int (own_j0_101_0 i1)), .val (.int (own_r8 ((i1.toUInt32 >>> ((6 : Int32) &&& 31).toUInt32).toInt32) (own_r8 ((i1.toUInt32 >>> ((4 : Int32) &&& 31).toUInt32).toInt32) (own_r8 ((i1.toUInt32 >>> ((2 : Int32) &&& 31).toUInt32).toInt32) (own_r8 i1 (0 : Int32))))))] [(.ref b1)])) rfl (by rw [hml]; rfl) (Steps.refl _) (argsL := []) (rest := []) (lenOf pd_2 rfl) rfl (by show 2 * 0 + _ ≤ _; exact Nat.le_of_eq rfl) (hb hby at_141) (fun _ _ => ⟨rfl, rfl, (by decide : 6 + 0 ≤ _), (by decide : 152 + 0 ≤ _)⟩)
      dsimp only [Pt.U, Pt.locs, Pt.cells, Pt.slots] at X61 l61 y61 z61 st61 hQ61
      subst l61 y61 z61
      obtain ⟨rfl, Nq61, e61⟩ := hQ61
      have N61 := Fr.app N56 Nq61
      have pre62 : ∀ t, Steps p.tables e below (T61.setTop (mkF m 145 #[.val (.int i1), .val (.ref b1), .val (.int (own_j0_101_0 i1)), .val (.int (own_r8 ((i1.toUInt32 >>> ((6 : Int32) &&& 31).toUInt32).toInt32) (own_r8 ((i1.toUInt32 >>> ((4 : Int32) &&& 31).toUInt32).toInt32) (own_r8 ((i1.toUInt32 >>> ((2 : Int32) &&& 31).toUInt32).toInt32) (own_r8 i1 (0 : Int32))))))] [(.int (own_r8 ((i1.toUInt32 >>> ((6 : Int32) &&& 31).toUInt32).toInt32) (own_r8 ((i1.toUInt32 >>> ((4 : Int32) &&& 31).toUInt32).toInt32) (own_r8 ((i1.toUInt32 >>> ((2 : Int32) &&& 31).toUInt32).toInt32) (own_r8 i1 (0 : Int32)))))), (.int (nar .boolean (own_j7_6_0 (own_f8_endedUnclaimed ((i1.toUInt32 >>> ((6 : Int32) &&& 31).toUInt32).toInt32) (own_f8_endedUnclaimed ((i1.toUInt32 >>> ((4 : Int32) &&& 31).toUInt32).toInt32) (own_f8_endedUnclaimed ((i1.toUInt32 >>> ((2 : Int32) &&& 31).toUInt32).toInt32) (own_f8_endedUnclaimed i1 (0 : Int64))))))))])) t → Steps p.tables e below (s₁.setTop (entryFrame m #[(.int i1)] maxLocals)) t := by
        intro t k
        refine pre58 _ ?_
        show Steps p.tables e below (T56.setTop (mkF m 137 #[.val (.int i1), .val (.ref b1), .val (.int (own_j0_101_0 i1)), .val (.int (own_r8 ((i1.toUInt32 >>> ((6 : Int32) &&& 31).toUInt32).toInt32) (own_r8 ((i1.toUInt32 >>> ((4 : Int32) &&& 31).toUInt32).toInt32) (own_r8 ((i1.toUInt32 >>> ((2 : Int32) &&& 31).toUInt32).toInt32) (own_r8 i1 (0 : Int32))))))] [(.int (own_j0_101_0 i1))])) _
        refine XS.ifNo X56.here hx rfl (hb hby at_137) rfl ((if0 _ _).trans (feq hc137_59).1) ?_
        show Steps p.tables e below (T56.setTop (mkF m 140 #[.val (.int i1), .val (.ref b1), .val (.int (own_j0_101_0 i1)), .val (.int (own_r8 ((i1.toUInt32 >>> ((6 : Int32) &&& 31).toUInt32).toInt32) (own_r8 ((i1.toUInt32 >>> ((4 : Int32) &&& 31).toUInt32).toInt32) (own_r8 ((i1.toUInt32 >>> ((2 : Int32) &&& 31).toUInt32).toInt32) (own_r8 i1 (0 : Int32))))))] [])) _
        refine XS.aloadN X56.here hx rfl (hb hby at_140) rfl rfl ?_
        show Steps p.tables e below (T56.setTop (mkF m 141 #[.val (.int i1), .val (.ref b1), .val (.int (own_j0_101_0 i1)), .val (.int (own_r8 ((i1.toUInt32 >>> ((6 : Int32) &&& 31).toUInt32).toInt32) (own_r8 ((i1.toUInt32 >>> ((4 : Int32) &&& 31).toUInt32).toInt32) (own_r8 ((i1.toUInt32 >>> ((2 : Int32) &&& 31).toUInt32).toInt32) (own_r8 i1 (0 : Int32))))))] [(.ref b1)])) _
        refine st61.trans ?_
        show Steps p.tables e below (T61.setTop (mkF m 144 #[.val (.int i1), .val (.ref b1), .val (.int (own_j0_101_0 i1)), .val (.int (own_r8 ((i1.toUInt32 >>> ((6 : Int32) &&& 31).toUInt32).toInt32) (own_r8 ((i1.toUInt32 >>> ((4 : Int32) &&& 31).toUInt32).toInt32) (own_r8 ((i1.toUInt32 >>> ((2 : Int32) &&& 31).toUInt32).toInt32) (own_r8 i1 (0 : Int32))))))] [(.int (nar .boolean (own_j7_6_0 (own_f8_endedUnclaimed ((i1.toUInt32 >>> ((6 : Int32) &&& 31).toUInt32).toInt32) (own_f8_endedUnclaimed ((i1.toUInt32 >>> ((4 : Int32) &&& 31).toUInt32).toInt32) (own_f8_endedUnclaimed ((i1.toUInt32 >>> ((2 : Int32) &&& 31).toUInt32).toInt32) (own_f8_endedUnclaimed i1 (0 : Int64))))))))])) _
        refine XS.iloadN X61.here hx rfl (hb hby at_144) rfl ?_
        exact k
      have pre66 : ∀ t, Steps p.tables e below (T61.setTop (mkF m 153 #[.val (.int i1), .val (.ref b1), .val (.int (own_j0_101_0 i1)), .val (.int (own_r8 ((i1.toUInt32 >>> ((6 : Int32) &&& 31).toUInt32).toInt32) (own_r8 ((i1.toUInt32 >>> ((4 : Int32) &&& 31).toUInt32).toInt32) (own_r8 ((i1.toUInt32 >>> ((2 : Int32) &&& 31).toUInt32).toInt32) (own_r8 i1 (0 : Int32))))))] [(.int (own_j0_145_0 i1)), (.int (nar .boolean (own_j7_6_0 (own_f8_endedUnclaimed ((i1.toUInt32 >>> ((6 : Int32) &&& 31).toUInt32).toInt32) (own_f8_endedUnclaimed ((i1.toUInt32 >>> ((4 : Int32) &&& 31).toUInt32).toInt32) (own_f8_endedUnclaimed ((i1.toUInt32 >>> ((2 : Int32) &&& 31).toUInt32).toInt32) (own_f8_endedUnclaimed i1 (0 : Int64))))))))])) t → Steps p.tables e below (s₁.setTop (entryFrame m #[(.int i1)] maxLocals)) t := by
        by_cases hc145_63 : (0 : Int32) < (own_r8 ((i1.toUInt32 >>> ((6 : Int32) &&& 31).toUInt32).toInt32) (own_r8 ((i1.toUInt32 >>> ((4 : Int32) &&& 31).toUInt32).toInt32) (own_r8 ((i1.toUInt32 >>> ((2 : Int32) &&& 31).toUInt32).toInt32) (own_r8 i1 (0 : Int32)))))
        · have pre64 : ∀ t, Steps p.tables e below (T61.setTop (mkF m 153 #[.val (.int i1), .val (.ref b1), .val (.int (own_j0_101_0 i1)), .val (.int (own_r8 ((i1.toUInt32 >>> ((6 : Int32) &&& 31).toUInt32).toInt32) (own_r8 ((i1.toUInt32 >>> ((4 : Int32) &&& 31).toUInt32).toInt32) (own_r8 ((i1.toUInt32 >>> ((2 : Int32) &&& 31).toUInt32).toInt32) (own_r8 i1 (0 : Int32))))))] [(.int (1 : Int32)), (.int (nar .boolean (own_j7_6_0 (own_f8_endedUnclaimed ((i1.toUInt32 >>> ((6 : Int32) &&& 31).toUInt32).toInt32) (own_f8_endedUnclaimed ((i1.toUInt32 >>> ((4 : Int32) &&& 31).toUInt32).toInt32) (own_f8_endedUnclaimed ((i1.toUInt32 >>> ((2 : Int32) &&& 31).toUInt32).toInt32) (own_f8_endedUnclaimed i1 (0 : Int64))))))))])) t → Steps p.tables e below (s₁.setTop (entryFrame m #[(.int i1)] maxLocals)) t := by
            intro t k
            refine pre62 _ ?_
            show Steps p.tables e below (T61.setTop (mkF m 145 #[.val (.int i1), .val (.ref b1), .val (.int (own_j0_101_0 i1)), .val (.int (own_r8 ((i1.toUInt32 >>> ((6 : Int32) &&& 31).toUInt32).toInt32) (own_r8 ((i1.toUInt32 >>> ((4 : Int32) &&& 31).toUInt32).toInt32) (own_r8 ((i1.toUInt32 >>> ((2 : Int32) &&& 31).toUInt32).toInt32) (own_r8 i1 (0 : Int32))))))] [(.int (own_r8 ((i1.toUInt32 >>> ((6 : Int32) &&& 31).toUInt32).toInt32) (own_r8 ((i1.toUInt32 >>> ((4 : Int32) &&& 31).toUInt32).toInt32) (own_r8 ((i1.toUInt32 >>> ((2 : Int32) &&& 31).toUInt32).toInt32) (own_r8 i1 (0 : Int32)))))), (.int (nar .boolean (own_j7_6_0 (own_f8_endedUnclaimed ((i1.toUInt32 >>> ((6 : Int32) &&& 31).toUInt32).toInt32) (own_f8_endedUnclaimed ((i1.toUInt32 >>> ((4 : Int32) &&& 31).toUInt32).toInt32) (own_f8_endedUnclaimed ((i1.toUInt32 >>> ((2 : Int32) &&& 31).toUInt32).toInt32) (own_f8_endedUnclaimed i1 (0 : Int64))))))))])) _
            refine XS.ifNo X61.here hx rfl (hb hby at_145) rfl ((if0 _ _).trans (tlt hc145_63).2.2.2) ?_
            show Steps p.tables e below (T61.setTop (mkF m 148 #[.val (.int i1), .val (.ref b1), .val (.int (own_j0_101_0 i1)), .val (.int (own_r8 ((i1.toUInt32 >>> ((6 : Int32) &&& 31).toUInt32).toInt32) (own_r8 ((i1.toUInt32 >>> ((4 : Int32) &&& 31).toUInt32).toInt32) (own_r8 ((i1.toUInt32 >>> ((2 : Int32) &&& 31).toUInt32).toInt32) (own_r8 i1 (0 : Int32))))))] [(.int (nar .boolean (own_j7_6_0 (own_f8_endedUnclaimed ((i1.toUInt32 >>> ((6 : Int32) &&& 31).toUInt32).toInt32) (own_f8_endedUnclaimed ((i1.toUInt32 >>> ((4 : Int32) &&& 31).toUInt32).toInt32) (own_f8_endedUnclaimed ((i1.toUInt32 >>> ((2 : Int32) &&& 31).toUInt32).toInt32) (own_f8_endedUnclaimed i1 (0 : Int64))))))))])) _
            refine XS.iconst X61.here hx rfl (hb hby at_148) ?_
            show Steps p.tables e below (T61.setTop (mkF m 149 #[.val (.int i1), .val (.ref b1), .val (.int (own_j0_101_0 i1)), .val (.int (own_r8 ((i1.toUInt32 >>> ((6 : Int32) &&& 31).toUInt32).toInt32) (own_r8 ((i1.toUInt32 >>> ((4 : Int32) &&& 31).toUInt32).toInt32) (own_r8 ((i1.toUInt32 >>> ((2 : Int32) &&& 31).toUInt32).toInt32) (own_r8 i1 (0 : Int32))))))] [(.int (1 : Int32)), (.int (nar .boolean (own_j7_6_0 (own_f8_endedUnclaimed ((i1.toUInt32 >>> ((6 : Int32) &&& 31).toUInt32).toInt32) (own_f8_endedUnclaimed ((i1.toUInt32 >>> ((4 : Int32) &&& 31).toUInt32).toInt32) (own_f8_endedUnclaimed ((i1.toUInt32 >>> ((2 : Int32) &&& 31).toUInt32).toInt32) (own_f8_endedUnclaimed i1 (0 : Int64))))))))])) _
            refine XS.goto X61.here hx rfl (pc0 := 149) (pc' := 153) rfl (hb hby at_149) (by decide) (by decide) ?_
            exact k
          exact fun t k => pre64 t (by rw [show (own_j0_145_0 i1) = (1 : Int32) from (if_pos hc145_63)] at k; exact k)
        · have pre65 : ∀ t, Steps p.tables e below (T61.setTop (mkF m 153 #[.val (.int i1), .val (.ref b1), .val (.int (own_j0_101_0 i1)), .val (.int (own_r8 ((i1.toUInt32 >>> ((6 : Int32) &&& 31).toUInt32).toInt32) (own_r8 ((i1.toUInt32 >>> ((4 : Int32) &&& 31).toUInt32).toInt32) (own_r8 ((i1.toUInt32 >>> ((2 : Int32) &&& 31).toUInt32).toInt32) (own_r8 i1 (0 : Int32))))))] [(.int (0 : Int32)), (.int (nar .boolean (own_j7_6_0 (own_f8_endedUnclaimed ((i1.toUInt32 >>> ((6 : Int32) &&& 31).toUInt32).toInt32) (own_f8_endedUnclaimed ((i1.toUInt32 >>> ((4 : Int32) &&& 31).toUInt32).toInt32) (own_f8_endedUnclaimed ((i1.toUInt32 >>> ((2 : Int32) &&& 31).toUInt32).toInt32) (own_f8_endedUnclaimed i1 (0 : Int64))))))))])) t → Steps p.tables e below (s₁.setTop (entryFrame m #[(.int i1)] maxLocals)) t := by
            intro t k
            refine pre62 _ ?_
            show Steps p.tables e below (T61.setTop (mkF m 145 #[.val (.int i1), .val (.ref b1), .val (.int (own_j0_101_0 i1)), .val (.int (own_r8 ((i1.toUInt32 >>> ((6 : Int32) &&& 31).toUInt32).toInt32) (own_r8 ((i1.toUInt32 >>> ((4 : Int32) &&& 31).toUInt32).toInt32) (own_r8 ((i1.toUInt32 >>> ((2 : Int32) &&& 31).toUInt32).toInt32) (own_r8 i1 (0 : Int32))))))] [(.int (own_r8 ((i1.toUInt32 >>> ((6 : Int32) &&& 31).toUInt32).toInt32) (own_r8 ((i1.toUInt32 >>> ((4 : Int32) &&& 31).toUInt32).toInt32) (own_r8 ((i1.toUInt32 >>> ((2 : Int32) &&& 31).toUInt32).toInt32) (own_r8 i1 (0 : Int32)))))), (.int (nar .boolean (own_j7_6_0 (own_f8_endedUnclaimed ((i1.toUInt32 >>> ((6 : Int32) &&& 31).toUInt32).toInt32) (own_f8_endedUnclaimed ((i1.toUInt32 >>> ((4 : Int32) &&& 31).toUInt32).toInt32) (own_f8_endedUnclaimed ((i1.toUInt32 >>> ((2 : Int32) &&& 31).toUInt32).toInt32) (own_f8_endedUnclaimed i1 (0 : Int64))))))))])) _
            refine XS.ifYes X61.here hx rfl (pc0 := 145) (pc' := 152) rfl (hb hby at_145) rfl ((if0 _ _).trans (flt hc145_63).2.2.2) (by decide) (by decide) ?_
            show Steps p.tables e below (T61.setTop (mkF m 152 #[.val (.int i1), .val (.ref b1), .val (.int (own_j0_101_0 i1)), .val (.int (own_r8 ((i1.toUInt32 >>> ((6 : Int32) &&& 31).toUInt32).toInt32) (own_r8 ((i1.toUInt32 >>> ((4 : Int32) &&& 31).toUInt32).toInt32) (own_r8 ((i1.toUInt32 >>> ((2 : Int32) &&& 31).toUInt32).toInt32) (own_r8 i1 (0 : Int32))))))] [(.int (nar .boolean (own_j7_6_0 (own_f8_endedUnclaimed ((i1.toUInt32 >>> ((6 : Int32) &&& 31).toUInt32).toInt32) (own_f8_endedUnclaimed ((i1.toUInt32 >>> ((4 : Int32) &&& 31).toUInt32).toInt32) (own_f8_endedUnclaimed ((i1.toUInt32 >>> ((2 : Int32) &&& 31).toUInt32).toInt32) (own_f8_endedUnclaimed i1 (0 : Int64))))))))])) _
            refine XS.iconst X61.here hx rfl (hb hby at_152) ?_
            exact k
          exact fun t k => pre65 t (by rw [show (own_j0_145_0 i1) = (0 : Int32) from (if_neg hc145_63)] at k; exact k)
      by_cases hc153_67 : (nar .boolean (own_j7_6_0 (own_f8_endedUnclaimed ((i1.toUInt32 >>> ((6 : Int32) &&& 31).toUInt32).toInt32) (own_f8_endedUnclaimed ((i1.toUInt32 >>> ((4 : Int32) &&& 31).toUInt32).toInt32) (own_f8_endedUnclaimed ((i1.toUInt32 >>> ((2 : Int32) &&& 31).toUInt32).toInt32) (own_f8_endedUnclaimed i1 (0 : Int64))))))) = (own_j0_145_0 i1)
      · have pre68 : ∀ t, Steps p.tables e below (T61.setTop (mkF m 161 #[.val (.int i1), .val (.ref b1), .val (.int (own_j0_101_0 i1)), .val (.int (own_r8 ((i1.toUInt32 >>> ((6 : Int32) &&& 31).toUInt32).toInt32) (own_r8 ((i1.toUInt32 >>> ((4 : Int32) &&& 31).toUInt32).toInt32) (own_r8 ((i1.toUInt32 >>> ((2 : Int32) &&& 31).toUInt32).toInt32) (own_r8 i1 (0 : Int32))))))] [(.int (1 : Int32))])) t → Steps p.tables e below (s₁.setTop (entryFrame m #[(.int i1)] maxLocals)) t := by
          intro t k
          refine pre66 _ ?_
          show Steps p.tables e below (T61.setTop (mkF m 153 #[.val (.int i1), .val (.ref b1), .val (.int (own_j0_101_0 i1)), .val (.int (own_r8 ((i1.toUInt32 >>> ((6 : Int32) &&& 31).toUInt32).toInt32) (own_r8 ((i1.toUInt32 >>> ((4 : Int32) &&& 31).toUInt32).toInt32) (own_r8 ((i1.toUInt32 >>> ((2 : Int32) &&& 31).toUInt32).toInt32) (own_r8 i1 (0 : Int32))))))] [(.int (own_j0_145_0 i1)), (.int (nar .boolean (own_j7_6_0 (own_f8_endedUnclaimed ((i1.toUInt32 >>> ((6 : Int32) &&& 31).toUInt32).toInt32) (own_f8_endedUnclaimed ((i1.toUInt32 >>> ((4 : Int32) &&& 31).toUInt32).toInt32) (own_f8_endedUnclaimed ((i1.toUInt32 >>> ((2 : Int32) &&& 31).toUInt32).toInt32) (own_f8_endedUnclaimed i1 (0 : Int64))))))))])) _
          refine XS.icmpNo X61.here hx rfl (hb hby at_153) rfl (teq hc153_67).2 ?_
          show Steps p.tables e below (T61.setTop (mkF m 156 #[.val (.int i1), .val (.ref b1), .val (.int (own_j0_101_0 i1)), .val (.int (own_r8 ((i1.toUInt32 >>> ((6 : Int32) &&& 31).toUInt32).toInt32) (own_r8 ((i1.toUInt32 >>> ((4 : Int32) &&& 31).toUInt32).toInt32) (own_r8 ((i1.toUInt32 >>> ((2 : Int32) &&& 31).toUInt32).toInt32) (own_r8 i1 (0 : Int32))))))] [])) _
          refine XS.iconst X61.here hx rfl (hb hby at_156) ?_
          show Steps p.tables e below (T61.setTop (mkF m 157 #[.val (.int i1), .val (.ref b1), .val (.int (own_j0_101_0 i1)), .val (.int (own_r8 ((i1.toUInt32 >>> ((6 : Int32) &&& 31).toUInt32).toInt32) (own_r8 ((i1.toUInt32 >>> ((4 : Int32) &&& 31).toUInt32).toInt32) (own_r8 ((i1.toUInt32 >>> ((2 : Int32) &&& 31).toUInt32).toInt32) (own_r8 i1 (0 : Int32))))))] [(.int (1 : Int32))])) _
          refine XS.goto X61.here hx rfl (pc0 := 157) (pc' := 161) rfl (hb hby at_157) (by decide) (by decide) ?_
          exact k
        exact ⟨T61, _, X61, N61, e61, fun t k => pre68 t (by rw [show (own_j0_137_0 i1) = (1 : Int32) from ((if_neg hc137_59).trans (if_pos hc153_67))] at k; exact k)⟩
      · have pre69 : ∀ t, Steps p.tables e below (T61.setTop (mkF m 161 #[.val (.int i1), .val (.ref b1), .val (.int (own_j0_101_0 i1)), .val (.int (own_r8 ((i1.toUInt32 >>> ((6 : Int32) &&& 31).toUInt32).toInt32) (own_r8 ((i1.toUInt32 >>> ((4 : Int32) &&& 31).toUInt32).toInt32) (own_r8 ((i1.toUInt32 >>> ((2 : Int32) &&& 31).toUInt32).toInt32) (own_r8 i1 (0 : Int32))))))] [(.int (0 : Int32))])) t → Steps p.tables e below (s₁.setTop (entryFrame m #[(.int i1)] maxLocals)) t := by
          intro t k
          refine pre66 _ ?_
          show Steps p.tables e below (T61.setTop (mkF m 153 #[.val (.int i1), .val (.ref b1), .val (.int (own_j0_101_0 i1)), .val (.int (own_r8 ((i1.toUInt32 >>> ((6 : Int32) &&& 31).toUInt32).toInt32) (own_r8 ((i1.toUInt32 >>> ((4 : Int32) &&& 31).toUInt32).toInt32) (own_r8 ((i1.toUInt32 >>> ((2 : Int32) &&& 31).toUInt32).toInt32) (own_r8 i1 (0 : Int32))))))] [(.int (own_j0_145_0 i1)), (.int (nar .boolean (own_j7_6_0 (own_f8_endedUnclaimed ((i1.toUInt32 >>> ((6 : Int32) &&& 31).toUInt32).toInt32) (own_f8_endedUnclaimed ((i1.toUInt32 >>> ((4 : Int32) &&& 31).toUInt32).toInt32) (own_f8_endedUnclaimed ((i1.toUInt32 >>> ((2 : Int32) &&& 31).toUInt32).toInt32) (own_f8_endedUnclaimed i1 (0 : Int64))))))))])) _
          refine XS.icmpYes X61.here hx rfl (pc0 := 153) (pc' := 160) rfl (hb hby at_153) rfl (feq hc153_67).2 (by decide) (by decide) ?_
          show Steps p.tables e below (T61.setTop (mkF m 160 #[.val (.int i1), .val (.ref b1), .val (.int (own_j0_101_0 i1)), .val (.int (own_r8 ((i1.toUInt32 >>> ((6 : Int32) &&& 31).toUInt32).toInt32) (own_r8 ((i1.toUInt32 >>> ((4 : Int32) &&& 31).toUInt32).toInt32) (own_r8 ((i1.toUInt32 >>> ((2 : Int32) &&& 31).toUInt32).toInt32) (own_r8 i1 (0 : Int32))))))] [])) _
          refine XS.iconst X61.here hx rfl (hb hby at_160) ?_
          exact k
        exact ⟨T61, _, X61, N61, e61, fun t k => pre69 t (by rw [show (own_j0_137_0 i1) = (0 : Int32) from ((if_neg hc137_59).trans (if_neg hc153_67))] at k; exact k)⟩
  have pre71 : ∀ t, Steps p.tables e below (T70.setTop (mkF m 163 #[.val (.int i1), .val (.ref b1), .val (.int (own_j0_137_0 i1)), .val (.int (own_r8 ((i1.toUInt32 >>> ((6 : Int32) &&& 31).toUInt32).toInt32) (own_r8 ((i1.toUInt32 >>> ((4 : Int32) &&& 31).toUInt32).toInt32) (own_r8 ((i1.toUInt32 >>> ((2 : Int32) &&& 31).toUInt32).toInt32) (own_r8 i1 (0 : Int32))))))] [(.int (own_j0_137_0 i1))])) t → Steps p.tables e below (s₁.setTop (entryFrame m #[(.int i1)] maxLocals)) t := by
    intro t k
    refine pre70 _ ?_
    show Steps p.tables e below (T70.setTop (mkF m 161 #[.val (.int i1), .val (.ref b1), .val (.int (own_j0_101_0 i1)), .val (.int (own_r8 ((i1.toUInt32 >>> ((6 : Int32) &&& 31).toUInt32).toInt32) (own_r8 ((i1.toUInt32 >>> ((4 : Int32) &&& 31).toUInt32).toInt32) (own_r8 ((i1.toUInt32 >>> ((2 : Int32) &&& 31).toUInt32).toInt32) (own_r8 i1 (0 : Int32))))))] [(.int (own_j0_137_0 i1))])) _
    refine XS.istoreN X70.here hx rfl (hb hby at_161) rfl (l' := #[.val (.int i1), .val (.ref b1), .val (.int (own_j0_137_0 i1)), .val (.int (own_r8 ((i1.toUInt32 >>> ((6 : Int32) &&& 31).toUInt32).toInt32) (own_r8 ((i1.toUInt32 >>> ((4 : Int32) &&& 31).toUInt32).toInt32) (own_r8 ((i1.toUInt32 >>> ((2 : Int32) &&& 31).toUInt32).toInt32) (own_r8 i1 (0 : Int32))))))]) rfl ?_
    show Steps p.tables e below (T70.setTop (mkF m 162 #[.val (.int i1), .val (.ref b1), .val (.int (own_j0_137_0 i1)), .val (.int (own_r8 ((i1.toUInt32 >>> ((6 : Int32) &&& 31).toUInt32).toInt32) (own_r8 ((i1.toUInt32 >>> ((4 : Int32) &&& 31).toUInt32).toInt32) (own_r8 ((i1.toUInt32 >>> ((2 : Int32) &&& 31).toUInt32).toInt32) (own_r8 i1 (0 : Int32))))))] [])) _
    refine XS.iloadN X70.here hx rfl (hb hby at_162) rfl ?_
    exact k
  obtain ⟨fs, hr, hrun, hended, hW, hsame⟩ := X70.leave (v := some (.int (nar .boolean (own_j0_137_0 i1)))) (fun h => by rw [Bd.returns] at h; cases h)
  refine ⟨_, _, pre71 _ ?_, hrun, hended, _, _, rfl, ?_, ⟨_, rfl⟩, hW, hsame.mono (by decide) (by decide)⟩
  · show Steps p.tables e below (T70.setTop (mkF m 163 #[.val (.int i1), .val (.ref b1), .val (.int (own_j0_137_0 i1)), .val (.int (own_r8 ((i1.toUInt32 >>> ((6 : Int32) &&& 31).toUInt32).toInt32) (own_r8 ((i1.toUInt32 >>> ((4 : Int32) &&& 31).toUInt32).toInt32) (own_r8 ((i1.toUInt32 >>> ((2 : Int32) &&& 31).toUInt32).toInt32) (own_r8 i1 (0 : Int32))))))] [(.int (own_j0_137_0 i1))])) _
    exact retN X70 hx (t := .boolean) Bd.returns (by simp) (hb hby at_163) hr
  · show Q0 Z i1 h0 n0 _ T70.heap _
    rw [e70]
    exact ⟨rfl, N70⟩
theorem own_law (i1 : Int32) : (nar .boolean (own_j0_137_0 i1)) = 1 := by
  have stp : ∀ (op c : Int32) (f : Int64) (n : Int), 0 ≤ n → n ≤ 100 → f.toInt = c.toInt → -n ≤ c.toInt → c.toInt ≤ n → (own_f8_endedUnclaimed op f).toInt = (own_r8 op c).toInt ∧ -(n + 1) ≤ (own_r8 op c).toInt ∧ (own_r8 op c).toInt ≤ n + 1 := by
    intro op c f n h0 h1 h2 h3 h4
    have k1 : (1 : Int32).toInt = 1 := by decide
    have k2 : (1 : Int64).toInt = 1 := by decide
    have a1 := c_iadd c 1
    have a2 := c_ladd f 1
    have a3 := c_isub c 1
    have a4 := c_lsub f 1
    have r1 := rng32 (c + 1)
    have r2 := rng64 (f + 1)
    have r3 := rng32 (c - 1)
    have r4 := rng64 (f - 1)
    unfold own_f8_endedUnclaimed own_r8
    by_cases q1 : op &&& 3 = 1
    · rw [if_pos q1, if_pos q1]; omega
    · rw [if_neg q1, if_neg q1]
      by_cases q2 : op &&& 3 = 2
      · rw [if_pos q2, if_pos q2]; omega
      · rw [if_neg q2, if_neg q2]; omega
  have aw : ∀ (c : Int32) (f : Int64), f.toInt = c.toInt → nar .boolean (own_j7_6_0 f) = (if (0 : Int32) < c then (1 : Int32) else (0 : Int32)) := by
    intro c f h
    have l1 : (0 : Int32) < c ↔ 0 < c.toInt := Int32.lt_iff_toInt_lt
    have l2 : (0 : Int64) < f ↔ 0 < f.toInt := Int64.lt_iff_toInt_lt
    unfold own_j7_6_0
    by_cases q : (0 : Int32) < c
    · rw [if_pos q, if_pos (l2.mpr (by have := l1.mp q; omega))]; rfl
    · rw [if_neg q, if_neg (fun z => q (l1.mpr (by have := l2.mp z; omega)))]; rfl
  have s1 := stp i1 0 0 0 (by omega) (by omega) (by decide) (by decide) (by decide)
  have s2 := stp ((i1.toUInt32 >>> ((2 : Int32) &&& 31).toUInt32).toInt32) _ _ _ (by omega) (by omega) s1.1 s1.2.1 s1.2.2
  have s3 := stp ((i1.toUInt32 >>> ((4 : Int32) &&& 31).toUInt32).toInt32) _ _ _ (by omega) (by omega) s2.1 s2.2.1 s2.2.2
  have s4 := stp ((i1.toUInt32 >>> ((6 : Int32) &&& 31).toUInt32).toInt32) _ _ _ (by omega) (by omega) s3.1 s3.2.1 s3.2.2
  have one : ¬ ((1 : Int32) = 0) := by decide
  have e0 : own_j0_12_0 = 1 := by decide
  have e1 : own_j0_31_0 i1 = 1 := by unfold own_j0_31_0; rw [e0, if_neg one]; exact if_pos (aw _ _ s1.1)
  have e2 : own_j0_66_0 i1 = 1 := by unfold own_j0_66_0; rw [e1, if_neg one]; exact if_pos (aw _ _ s2.1)
  have e3 : own_j0_101_0 i1 = 1 := by unfold own_j0_101_0; rw [e2, if_neg one]; exact if_pos (aw _ _ s3.1)
  have e4 : own_j0_137_0 i1 = 1 := by unfold own_j0_137_0; rw [e3, if_neg one]; exact if_pos (aw _ _ s4.1)
  exact own_nar1 e4
set_option maxRecDepth 65536 in
set_option maxHeartbeats 40000000 in
theorem comes_1 {Post : Tables → Env → Array Value → State → Outcome → State → Prop} (hpost : ∀ tb e args s v u, (limb_1_1.after args s (.returned v) u = true ∧ limb_1_2.after args s (.returned v) u = true ∧ True) → FrameEnd s (.returned v) u (Jvm.fieldLocs frame_1_writes args s ++ Jvm.arrayLocs frame_1_arrays args s ++ Jvm.staticLocs frame_1_statics s) 24 384 → Post tb e args s (.returned v) u) :
    ArmFor flags0 classFile x code maxLocals ret World_1 tables_1 room_1 Calls_1 rest_1 Pre_1 Post := by
  intro l hfl _ _ p e ha hc hk s m args below hf hA hF happ hP
  obtain ⟨hcalls, hrest, hpre⟩ := hP
  obtain ⟨-, -, -, hnamed, -, -, -, hat⟩ := (Spec.applies_iff hf).mp happ
  obtain ⟨hg, hn⟩ := and_e (Cond.before_iff.mp (show (Jvm.Cond.and given_1 narrow_1).before args s = true from hpre))
  obtain ⟨g1, g2⟩ := and_e hg
  obtain ⟨w0, rfl⟩ : ∃ w0 : Value, args = #[w0] := by
    have hs : args.size = 1 := by simpa [Cond.value, given_1] using g1
    obtain ⟨L⟩ := args
    match L, hs with
    | [w0], _ => exact ⟨w0, rfl⟩
  have hw := fun d (hd : d ∈ tables_1) => atoms_spec (ws := Jvm.Cond.code x code maxLocals ret :: tables_1) hat d (List.mem_cons_of_mem _ hd)
  have hfit : Fit s := fun {y c} hc i hi => by
    obtain ⟨ha, rfl⟩ := Array.getElem?_eq_some_iff.mp hc
    have q := List.all_eq_true.mp ((Array.all_eq_true_iff_forall_mem.mp hF) _ (Array.getElem_mem ha)) i (List.mem_range.mpr hi)
    simpa [Array.getElem?_eq_getElem hi] using q
  obtain ⟨i0, ei0⟩ := is_v g2
  obtain rfl : w0 = (.int i0) := Option.some.inj ei0
  obtain ⟨n, o, h1, h2, h3, _, L, rfl, ⟨hv, N⟩, hq⟩ := rm0 l s _ hw tables_1 i0 s.heap s.heap.size (Nat.le_refl _)  p e ha hc hk s m _ below hf ((Spec.applies_iff_loose hf).mp happ).1 ⟨rfl, State.Warmed39.refl s, rfl⟩ trivial
  rw [show (nar .boolean (own_j0_137_0 i0)) = 1 from own_law i0] at hv
  subst hv
  refine ⟨n, _, h1, h2, h3, hpost _ _ _ _ _ _ ⟨Cond.after_iff.mpr rfl, Cond.after_iff.mpr (eq_i res_at (Term.int_eval (1)) rfl), trivial⟩ ⟨hq.1, hq.2.1, (hq.2.2.sift fun y hy => Or.inr (N y hy)).mono (by decide) (by decide)⟩⟩
theorem main_1_1 : Claimed_1_1 := comes_1 fun _ _ _ _ _ _ h hF => ⟨h.1, hF⟩
theorem main_1_2 : Claimed_1_2 := comes_1 fun _ _ _ _ _ _ h hF => ⟨h.2.1, hF⟩
end Jvm.Pilot.@@N@@
namespace Jvm.Pilot.@@N@@
open Jvm Jvm.ClassFile Sem Op Lib Jvm.Free Jvm.Stand Jvm.Pilot.@@N@@.Jvm.D
/-! MADE BY PROGRAM (witnessworld.py) out of the Statement's table words and the real class files: 14 classes; the members and pool entries that the words name. The judged class is class 1, her method 2. -/
namespace start1
open Jvm.ClassFile
def u (s : String) : CpInfo := .utf8 (stringToUtf16 s)
/-- a pool by its gaps: so many unusable entries, then the entry; so many at the end -/
def gap : Nat → List CpInfo → List CpInfo
  | 0, r => r
  | n + 1, r => .unusable :: gap n r
def poolList (es : List (Nat × CpInfo)) (last : Nat) : List CpInfo := es.foldr (fun e r => gap e.1 (e.2 :: r)) (gap last [])
def pool (es : List (Nat × CpInfo)) (last : Nat) : Array CpInfo := ⟨poolList es last⟩
def fileOf (pool : Array CpInfo) (this : Nat) (attrs : Array Attribute := #[]) (ms : Array MethodInfo := #[]) (fl : Nat := 33) (sup : Nat := 0) (ifs : Array Nat := #[]) (fds : Array FieldInfo := #[]) : ClassFile where
  minorVersion := 0
  majorVersion := 65
  constantPool := pool
  accessFlags := fl
  thisClass := this
  superClass := sup
  interfaces := ifs
  fields := fds
  methods := ms
  attributes := attrs
def plain (name : String) (sup : Option ClassId) : Class where
  name := name
  kind := .ordinary
  loader := none
  accessFlags := 33
  super := sup
  interfaces := #[]
  cf := none
  fields := #[]
  methods := #[]
  instanceTypes := #[]
  staticTypes := #[]
  resolved := #[]
  callSites := []
  init := .initialized
  statics := none
  mirror := none

def pool0 : Array CpInfo := pool [(5, u "<init>"), (0, u "()V"), (1, .class_ 10), (1, u "java/lang/Object")] 113

def k0c0 : Code := { maxStack := 0, maxLocals := 1, code := object_method_1_code, exceptionTable := #[], attributes := #[] }
def k0m0 : Method := { name := "<init>", desc := "()V", sig := { parameters := [], returnType := none }, accessFlags := 1, code := some k0c0 }
/-- java/lang/Object -/
def k0 : Class := { plain "java/lang/Object" none with
  accessFlags := 33
  interfaces := #[]
  cf := some (fileOf pool0 8 #[] #[{ accessFlags := 1, nameIndex := 5, descriptorIndex := 6, attributes := #[] }] 33 0 #[] #[])
  fields := #[]
  methods := #[k0m0]
  instanceTypes := #[]
  staticTypes := #[]
  resolved := Array.replicate 124 none
  statics := none }

def pool1 : Array CpInfo := pool [(2, .class_ 4), (0, .nameAndType 5 6), (0, u "java/lang/Object"), (0, u "<init>"), (0, u "()V"), (0, .methodref 8 9), (0, .class_ 10), (0, .nameAndType 11 6), (0, u "com/example/fetchwright/fetchwright/service/Provenance"), (0, u "endedUnclaimed"), (0, .methodref 8 13), (0, .nameAndType 14 6), (0, u "endedLoadClaimed"), (0, .methodref 8 3), (0, .methodref 8 17), (0, .nameAndType 18 19), (0, u "awaitsReferences"), (0, u "()Z"), (0, .methodref 21 22), (0, .class_ 23), (0, .nameAndType 24 25), (0, u "com/example/fetchwright/fetchwright/service/ProvenanceAwaitsReferencesPinLaw"), (0, u "step"), (0, u "(Lcom/example/fetchwright/fetchwright/service/Provenance;II)I"), (3, u "law"), (0, u "(I)Z")] 2

def k1m0 : Method := { name := "<init>", desc := "()V", sig := { parameters := [], returnType := none }, accessFlags := 1, code := none }
def k1c1 : Code := { maxStack := 2, maxLocals := 4, code := method_2_code, exceptionTable := #[], attributes := #[] }
def k1m1 : Method := { name := "step", desc := "(Lcom/example/fetchwright/fetchwright/service/Provenance;II)I", sig := { parameters := [(.object "com/example/fetchwright/fetchwright/service/Provenance"), .int, .int], returnType := some .int }, accessFlags := 10, code := some k1c1 }
def k1c2 : Code := { maxStack := 3, maxLocals := 4, code := code, exceptionTable := #[], attributes := #[] }
def k1m2 : Method := { name := "law", desc := "(I)Z", sig := { parameters := [.int], returnType := some .boolean }, accessFlags := 9, code := some k1c2 }
/-- com/example/fetchwright/fetchwright/service/ProvenanceAwaitsReferencesPinLaw -/
def k1 : Class := { plain "com/example/fetchwright/fetchwright/service/ProvenanceAwaitsReferencesPinLaw" (some 0) with
  accessFlags := 49
  interfaces := #[]
  cf := some (fileOf pool1 21 #[] #[{ accessFlags := 1, nameIndex := 5, descriptorIndex := 6, attributes := #[] }, { accessFlags := 10, nameIndex := 24, descriptorIndex := 25, attributes := #[] }, { accessFlags := 9, nameIndex := 29, descriptorIndex := 30, attributes := #[] }] 49 2 #[] #[])
  fields := #[]
  methods := #[k1m0, k1m1, k1m2]
  instanceTypes := #[]
  staticTypes := #[]
  resolved := Array.replicate 33 none
  statics := none }

def pool2 : Array CpInfo := pool [(1, .methodref 2 3), (0, .class_ 4), (0, .nameAndType 5 6), (0, u "java/lang/Object"), (0, u "<init>"), (0, u "()V"), (0, .class_ 8), (0, u "java/util/IdentityHashMap"), (0, .methodref 7 3), (0, .fieldref 11 12), (0, .class_ 13), (0, .nameAndType 14 15), (0, u "com/example/fetchwright/fetchwright/service/Provenance"), (0, u "loadsOfInstances"), (0, u "Ljava/util/Map;"), (0, .fieldref 11 17), (0, .nameAndType 18 15), (0, u "references"), (0, .class_ 20), (0, u "java/util/HashMap"), (0, .methodref 19 3), (0, .fieldref 11 23), (0, .nameAndType 24 15), (0, u "collectionsByRole"), (9, u "()Z"), (6, .fieldref 11 42), (0, .nameAndType 43 44), (0, u "endedUnclaimed"), (0, u "J"), (3, .class_ 49), (0, u "com/example/fetchwright/fetchwright/service/Provenance$Reference"), (6, .class_ 57), (0, u "com/example/fetchwright/fetchwright/service/Provenance$HeldCollections"), (51, u "endedLoadClaimed"), (0, u "awaitsReferences")] 21

def k2c0 : Code := { maxStack := 3, maxLocals := 1, code := prog_12_method_1_code, exceptionTable := #[], attributes := #[] }
def k2m0 : Method := { name := "<init>", desc := "()V", sig := { parameters := [], returnType := none }, accessFlags := 0, code := some k2c0 }
def k2c1 : Code := { maxStack := 5, maxLocals := 1, code := prog_12_method_4_code, exceptionTable := #[], attributes := #[] }
def k2m1 : Method := { name := "endedUnclaimed", desc := "()V", sig := { parameters := [], returnType := none }, accessFlags := 0, code := some k2c1 }
def k2c2 : Code := { maxStack := 5, maxLocals := 1, code := prog_12_method_5_code, exceptionTable := #[], attributes := #[] }
def k2m2 : Method := { name := "endedLoadClaimed", desc := "()V", sig := { parameters := [], returnType := none }, accessFlags := 0, code := some k2c2 }
def k2c3 : Code := { maxStack := 4, maxLocals := 1, code := prog_12_method_6_code, exceptionTable := #[], attributes := #[] }
def k2m3 : Method := { name := "awaitsReferences", desc := "()Z", sig := { parameters := [], returnType := some .boolean }, accessFlags := 0, code := some k2c3 }
/-- com/example/fetchwright/fetchwright/service/Provenance -/
def k2 : Class := { plain "com/example/fetchwright/fetchwright/service/Provenance" (some 0) with
  accessFlags := 48
  interfaces := #[]
  cf := some (fileOf pool2 11 #[.nestMembers #[56, 48]] #[{ accessFlags := 0, nameIndex := 5, descriptorIndex := 6, attributes := #[] }, { accessFlags := 0, nameIndex := 43, descriptorIndex := 6, attributes := #[] }, { accessFlags := 0, nameIndex := 109, descriptorIndex := 6, attributes := #[] }, { accessFlags := 0, nameIndex := 110, descriptorIndex := 34, attributes := #[] }] 48 2 #[] #[{ accessFlags := 18, nameIndex := 14, descriptorIndex := 15, attributes := #[] }, { accessFlags := 18, nameIndex := 18, descriptorIndex := 15, attributes := #[] }, { accessFlags := 18, nameIndex := 24, descriptorIndex := 15, attributes := #[] }, { accessFlags := 2, nameIndex := 43, descriptorIndex := 44, attributes := #[] }])
  fields := #[{ name := "loadsOfInstances", type := (.object "java/util/Map"), accessFlags := 18, slot := 0, constantValue := 0 }, { name := "references", type := (.object "java/util/Map"), accessFlags := 18, slot := 1, constantValue := 0 }, { name := "collectionsByRole", type := (.object "java/util/Map"), accessFlags := 18, slot := 2, constantValue := 0 }, { name := "endedUnclaimed", type := .long, accessFlags := 2, slot := 3, constantValue := 0 }]
  methods := #[k2m0, k2m1, k2m2, k2m3]
  instanceTypes := #[(.object "java/util/Map"), (.object "java/util/Map"), (.object "java/util/Map"), .long]
  staticTypes := #[]
  resolved := Array.replicate 132 none
  statics := none }

def pool3 : Array CpInfo := pool [(2, .class_ 4), (1, u "java/util/Map"), (31, .class_ 37), (0, u "java/util/Map$Entry"), (55, .class_ 94), (0, u "java/lang/Object")] 168

/-- java/util/Map -/
def k3 : Class := { plain "java/util/Map" (some 0) with
  accessFlags := 1537
  interfaces := #[]
  cf := some (fileOf pool3 2 #[.nestMembers #[36]] #[] 1537 93 #[] #[])
  fields := #[]
  methods := #[]
  instanceTypes := #[]
  staticTypes := #[]
  resolved := Array.replicate 263 none
  statics := none }

def pool4 : Array CpInfo := pool [(1, .methodref 2 3), (0, .class_ 4), (0, .nameAndType 5 6), (0, u "java/lang/Object"), (0, u "<init>"), (0, u "()V"), (1, .class_ 10), (1, u "java/util/AbstractMap"), (42, .class_ 54), (0, u "java/util/Map"), (9, u "keySet"), (0, u "Ljava/util/Set;"), (0, .class_ 67), (0, u "java/util/AbstractMap$1"), (5, u "values"), (0, u "Ljava/util/Collection;"), (0, .class_ 76), (0, u "java/util/AbstractMap$2"), (104, .class_ 182), (0, u "java/util/AbstractMap$ViewCollection"), (0, .class_ 184), (0, u "java/util/AbstractMap$SimpleImmutableEntry"), (0, .class_ 186), (0, u "java/util/AbstractMap$SimpleEntry"), (0, .class_ 188), (0, u "java/util/AbstractMap$2$1"), (0, .class_ 190), (0, u "java/util/AbstractMap$1$1")] 5

def k4c0 : Code := { maxStack := 1, maxLocals := 1, code := jdk_71_method_1_code, exceptionTable := #[], attributes := #[] }
def k4m0 : Method := { name := "<init>", desc := "()V", sig := { parameters := [], returnType := none }, accessFlags := 4, code := some k4c0 }
/-- java/util/AbstractMap -/
def k4 : Class := { plain "java/util/AbstractMap" (some 0) with
  accessFlags := 1057
  interfaces := #[3]
  cf := some (fileOf pool4 8 #[.nestMembers #[181, 183, 185, 75, 187, 66, 189]] #[{ accessFlags := 4, nameIndex := 5, descriptorIndex := 6, attributes := #[] }] 1057 2 #[53] #[{ accessFlags := 128, nameIndex := 64, descriptorIndex := 65, attributes := #[] }, { accessFlags := 128, nameIndex := 73, descriptorIndex := 74, attributes := #[] }])
  fields := #[{ name := "keySet", type := (.object "java/util/Set"), accessFlags := 128, slot := 0, constantValue := 0 }, { name := "values", type := (.object "java/util/Collection"), accessFlags := 128, slot := 1, constantValue := 0 }]
  methods := #[k4m0]
  instanceTypes := #[(.object "java/util/Set"), (.object "java/util/Collection")]
  staticTypes := #[]
  resolved := Array.replicate 196 none
  statics := none }

def pool5 : Array CpInfo := pool [(1, .class_ 2), (0, u "java/io/Serializable"), (0, .class_ 4), (0, u "java/lang/Object")] 2

/-- java/io/Serializable -/
def k5 : Class := { plain "java/io/Serializable" (some 0) with
  accessFlags := 1537
  interfaces := #[]
  cf := some (fileOf pool5 1 #[] #[] 1537 3 #[] #[])
  fields := #[]
  methods := #[]
  instanceTypes := #[]
  staticTypes := #[]
  resolved := Array.replicate 7 none
  statics := none }

def pool6 : Array CpInfo := pool [(1, .class_ 2), (0, u "java/lang/Cloneable"), (0, .class_ 4), (0, u "java/lang/Object")] 2

/-- java/lang/Cloneable -/
def k6 : Class := { plain "java/lang/Cloneable" (some 0) with
  accessFlags := 1537
  interfaces := #[]
  cf := some (fileOf pool6 1 #[] #[] 1537 3 #[] #[])
  fields := #[]
  methods := #[]
  instanceTypes := #[]
  staticTypes := #[]
  resolved := Array.replicate 7 none
  statics := none }

def pool7 : Array CpInfo := pool [(2, .class_ 4), (1, u "java/util/IdentityHashMap"), (0, u "NULL_KEY"), (0, u "Ljava/lang/Object;"), (0, .methodref 8 9), (0, .class_ 10), (0, .nameAndType 11 12), (0, u "java/util/AbstractMap"), (0, u "<init>"), (0, u "()V"), (0, .methodref 2 14), (0, .nameAndType 15 16), (0, u "init"), (0, u "(I)V"), (32, .class_ 50), (0, u "java/lang/Object"), (0, .fieldref 2 52), (0, .nameAndType 53 54), (0, u "table"), (0, u "[Ljava/lang/Object;"), (1, .class_ 58), (1, u "java/util/Map"), (0, u "size"), (11, u "I"), (24, u "modCount"), (9, u "entrySet"), (50, u "Ljava/util/Set;"), (12, .class_ 171), (0, u "java/util/IdentityHashMap$KeySet"), (7, .class_ 180), (0, u "java/util/IdentityHashMap$Values"), (1, .class_ 183), (0, u "java/util/IdentityHashMap$EntrySet"), (69, .class_ 254), (0, u "java/io/Serializable"), (0, .class_ 256), (0, u "java/lang/Cloneable"), (0, u "DEFAULT_CAPACITY"), (2, u "MINIMUM_CAPACITY"), (1, u "MAXIMUM_CAPACITY"), (2, u "serialVersionUID"), (0, u "J"), (102, .class_ 370), (0, u "java/util/IdentityHashMap$EntrySpliterator"), (0, .class_ 372), (0, u "java/util/IdentityHashMap$ValueSpliterator"), (0, .class_ 374), (0, u "java/util/IdentityHashMap$KeySpliterator"), (0, .class_ 376), (0, u "java/util/IdentityHashMap$IdentityHashMapSpliterator"), (0, .class_ 378), (0, u "java/util/IdentityHashMap$EntryIterator"), (0, .class_ 380), (0, u "java/util/IdentityHashMap$EntryIterator$Entry"), (0, .class_ 382), (0, u "java/util/IdentityHashMap$ValueIterator"), (0, .class_ 384), (0, u "java/util/IdentityHashMap$KeyIterator"), (0, .class_ 386), (0, u "java/util/IdentityHashMap$IdentityHashMapIterator")] 16

def k7c0 : Code := { maxStack := 2, maxLocals := 1, code := jdk_2581_method_3_code, exceptionTable := #[], attributes := #[] }
def k7m0 : Method := { name := "<init>", desc := "()V", sig := { parameters := [], returnType := none }, accessFlags := 1, code := some k7c0 }
def k7c1 : Code := { maxStack := 3, maxLocals := 2, code := jdk_2581_method_6_code, exceptionTable := #[], attributes := #[] }
def k7m1 : Method := { name := "init", desc := "(I)V", sig := { parameters := [.int], returnType := none }, accessFlags := 2, code := some k7c1 }
/-- java/util/IdentityHashMap -/
def k7 : Class := { plain "java/util/IdentityHashMap" (some 4) with
  accessFlags := 33
  interfaces := #[3, 5, 6]
  cf := some (fileOf pool7 2 #[.nestMembers #[369, 371, 373, 375, 182, 179, 170, 377, 379, 381, 383, 385]] #[{ accessFlags := 1, nameIndex := 11, descriptorIndex := 12, attributes := #[] }, { accessFlags := 2, nameIndex := 15, descriptorIndex := 16, attributes := #[] }] 33 8 #[56, 253, 255] #[{ accessFlags := 26, nameIndex := 257, descriptorIndex := 71, attributes := #[] }, { accessFlags := 26, nameIndex := 260, descriptorIndex := 71, attributes := #[] }, { accessFlags := 26, nameIndex := 262, descriptorIndex := 71, attributes := #[] }, { accessFlags := 128, nameIndex := 53, descriptorIndex := 54, attributes := #[] }, { accessFlags := 0, nameIndex := 59, descriptorIndex := 71, attributes := #[] }, { accessFlags := 128, nameIndex := 96, descriptorIndex := 71, attributes := #[] }, { accessFlags := 24, nameIndex := 5, descriptorIndex := 6, attributes := #[] }, { accessFlags := 130, nameIndex := 106, descriptorIndex := 157, attributes := #[] }, { accessFlags := 26, nameIndex := 265, descriptorIndex := 266, attributes := #[] }])
  fields := #[{ name := "DEFAULT_CAPACITY", type := .int, accessFlags := 26, slot := 0, constantValue := 0 }, { name := "MINIMUM_CAPACITY", type := .int, accessFlags := 26, slot := 1, constantValue := 0 }, { name := "MAXIMUM_CAPACITY", type := .int, accessFlags := 26, slot := 2, constantValue := 0 }, { name := "table", type := (.array (.object "java/lang/Object")), accessFlags := 128, slot := 2, constantValue := 0 }, { name := "size", type := .int, accessFlags := 0, slot := 3, constantValue := 0 }, { name := "modCount", type := .int, accessFlags := 128, slot := 4, constantValue := 0 }, { name := "NULL_KEY", type := (.object "java/lang/Object"), accessFlags := 24, slot := 3, constantValue := 0 }, { name := "entrySet", type := (.object "java/util/Set"), accessFlags := 130, slot := 5, constantValue := 0 }, { name := "serialVersionUID", type := .long, accessFlags := 26, slot := 4, constantValue := 0 }]
  methods := #[k7m0, k7m1]
  instanceTypes := #[(.object "java/util/Set"), (.object "java/util/Collection"), (.array (.object "java/lang/Object")), .int, .int, (.object "java/util/Set")]
  staticTypes := #[.int, .int, .int, (.object "java/lang/Object"), .long]
  resolved := Array.replicate 403 none
  statics := none }

def pool8 : Array CpInfo := pool [(40, .class_ 41), (0, u "java/util/HashMap"), (1, .methodref 44 45), (0, .class_ 46), (0, .nameAndType 47 48), (0, u "java/util/AbstractMap"), (0, u "<init>"), (0, u "()V"), (32, .fieldref 40 82), (0, .nameAndType 83 84), (0, u "loadFactor"), (0, u "F"), (5, u "threshold"), (0, u "I"), (0, .float 1061158912), (8, .class_ 103), (1, u "java/util/Map"), (0, u "size"), (2, u "table"), (0, u "[Ljava/util/HashMap$Node;"), (14, u "entrySet"), (39, .class_ 165), (1, u "java/util/HashMap$Node"), (14, .class_ 181), (0, u "java/util/HashMap$TreeNode"), (22, u "modCount"), (37, u "Ljava/util/Set;"), (0, .class_ 244), (0, u "java/util/HashMap$KeySet"), (18, .class_ 264), (0, u "java/util/HashMap$Values"), (3, .class_ 269), (0, u "java/util/HashMap$EntrySet"), (76, .class_ 348), (1, u "java/util/HashMap$UnsafeHolder"), (43, .class_ 393), (0, u "java/lang/Cloneable"), (0, .class_ 395), (0, u "java/io/Serializable"), (0, u "serialVersionUID"), (0, u "J"), (3, u "DEFAULT_INITIAL_CAPACITY"), (1, u "MAXIMUM_CAPACITY"), (0, u "DEFAULT_LOAD_FACTOR"), (0, u "TREEIFY_THRESHOLD"), (1, u "UNTREEIFY_THRESHOLD"), (1, u "MIN_TREEIFY_CAPACITY"), (186, .class_ 597), (0, u "java/util/HashMap$EntrySpliterator"), (0, .class_ 599), (0, u "java/util/HashMap$ValueSpliterator"), (0, .class_ 601), (0, u "java/util/HashMap$KeySpliterator"), (0, .class_ 603), (0, u "java/util/HashMap$HashMapSpliterator"), (0, .class_ 605), (0, u "java/util/HashMap$EntryIterator"), (0, .class_ 607), (0, u "java/util/HashMap$ValueIterator"), (0, .class_ 609), (0, u "java/util/HashMap$KeyIterator"), (0, .class_ 611), (0, u "java/util/HashMap$HashIterator")] 17

def k8c0 : Code := { maxStack := 2, maxLocals := 1, code := jdk_69_method_7_code, exceptionTable := #[], attributes := #[] }
def k8m0 : Method := { name := "<init>", desc := "()V", sig := { parameters := [], returnType := none }, accessFlags := 1, code := some k8c0 }
/-- java/util/HashMap -/
def k8 : Class := { plain "java/util/HashMap" (some 4) with
  accessFlags := 33
  interfaces := #[3, 6, 5]
  cf := some (fileOf pool8 40 #[.nestMembers #[180, 596, 598, 600, 602, 604, 606, 608, 610, 346, 268, 263, 243, 163]] #[{ accessFlags := 1, nameIndex := 47, descriptorIndex := 48, attributes := #[] }] 33 44 #[101, 392, 394] #[{ accessFlags := 26, nameIndex := 396, descriptorIndex := 397, attributes := #[] }, { accessFlags := 24, nameIndex := 401, descriptorIndex := 91, attributes := #[] }, { accessFlags := 24, nameIndex := 403, descriptorIndex := 91, attributes := #[] }, { accessFlags := 24, nameIndex := 404, descriptorIndex := 84, attributes := #[] }, { accessFlags := 24, nameIndex := 405, descriptorIndex := 91, attributes := #[] }, { accessFlags := 24, nameIndex := 407, descriptorIndex := 91, attributes := #[] }, { accessFlags := 24, nameIndex := 409, descriptorIndex := 91, attributes := #[] }, { accessFlags := 128, nameIndex := 107, descriptorIndex := 108, attributes := #[] }, { accessFlags := 128, nameIndex := 123, descriptorIndex := 242, attributes := #[] }, { accessFlags := 128, nameIndex := 104, descriptorIndex := 91, attributes := #[] }, { accessFlags := 128, nameIndex := 204, descriptorIndex := 91, attributes := #[] }, { accessFlags := 0, nameIndex := 90, descriptorIndex := 91, attributes := #[] }, { accessFlags := 16, nameIndex := 83, descriptorIndex := 84, attributes := #[] }])
  fields := #[{ name := "serialVersionUID", type := .long, accessFlags := 26, slot := 0, constantValue := 0 }, { name := "DEFAULT_INITIAL_CAPACITY", type := .int, accessFlags := 24, slot := 1, constantValue := 0 }, { name := "MAXIMUM_CAPACITY", type := .int, accessFlags := 24, slot := 2, constantValue := 0 }, { name := "DEFAULT_LOAD_FACTOR", type := .float, accessFlags := 24, slot := 3, constantValue := 0 }, { name := "TREEIFY_THRESHOLD", type := .int, accessFlags := 24, slot := 4, constantValue := 0 }, { name := "UNTREEIFY_THRESHOLD", type := .int, accessFlags := 24, slot := 5, constantValue := 0 }, { name := "MIN_TREEIFY_CAPACITY", type := .int, accessFlags := 24, slot := 6, constantValue := 0 }, { name := "table", type := (.array (.object "java/util/HashMap$Node")), accessFlags := 128, slot := 2, constantValue := 0 }, { name := "entrySet", type := (.object "java/util/Set"), accessFlags := 128, slot := 3, constantValue := 0 }, { name := "size", type := .int, accessFlags := 128, slot := 4, constantValue := 0 }, { name := "modCount", type := .int, accessFlags := 128, slot := 5, constantValue := 0 }, { name := "threshold", type := .int, accessFlags := 0, slot := 6, constantValue := 0 }, { name := "loadFactor", type := .float, accessFlags := 16, slot := 7, constantValue := 0 }]
  methods := #[k8m0]
  instanceTypes := #[(.object "java/util/Set"), (.object "java/util/Collection"), (.array (.object "java/util/HashMap$Node")), (.object "java/util/Set"), .int, .int, .int, .float]
  staticTypes := #[.long, .int, .int, .float, .int, .int, .int]
  resolved := Array.replicate 629 none
  statics := none }

/-- the primitive byte -/
def k9 : Class := { plain "byte" none with kind := .primitive 'B', accessFlags := 0x411 }
/-- [B -/
def k10 : Class := { plain "[B" (some 0) with kind := .array 9 .byte, interfaces := #[6, 5], accessFlags := 1041 }

/-- the primitive int -/
def k11 : Class := { plain "int" none with kind := .primitive 'I', accessFlags := 0x411 }
/-- [I -/
def k12 : Class := { plain "[I" (some 0) with kind := .array 11 .int, interfaces := #[6, 5], accessFlags := 1041 }

/-- [Ljava/lang/Object; -/
def k13 : Class := { plain "[Ljava/lang/Object;" (some 0) with kind := .array 0 (.object "java/lang/Object"), interfaces := #[6, 5], accessFlags := 1041 }

def heap : Heap := #[]
def classes : Array Class := #[k0, k1, k2, k3, k4, k5, k6, k7, k8, k9, k10, k11, k12, k13]
def interned : List (Array UInt16 × Addr) := []
def slotsUsed : Nat := 0
def theMethod : MethodId := ⟨1, 2⟩
def args0 : Array Value := #[.int 5]
def aboutOver (below : List Frame) : State where
  vm := { classes := classes, interned := interned.toArray }
  heap := heap
  slotsUsed := slotsUsed
  threads := #[{ frames := .invoking theMethod args0 :: below }]
def below0 : List Frame := [.native { method := ⟨0, 0⟩, args := #[] }]
def about1 : State := aboutOver below0
def p0 : Program := .bare "" "" ""
def e0 : Env := launch0.env 0 0 0
theorem w_frames : about1.frames = Frame.invoking theMethod args0 :: below0 := rfl
set_option maxRecDepth 65536 in
theorem w_args : argsFit about1.vm theMethod args0 = true := by decide +kernel
set_option maxRecDepth 65536 in
theorem w_heap : heapFits about1 = true := by decide +kernel
set_option maxRecDepth 65536 in
theorem w_runnable : about1.curStatus? = some .runnable := by decide +kernel
set_option maxRecDepth 65536 in
theorem w_alone : about1.alone = true := by decide +kernel
set_option maxRecDepth 65536 in
theorem w_named : about1.methodNamed? x = some theMethod := by decide +kernel
set_option maxRecDepth 65536 in
theorem w_hears : about1.hears theMethod below0 = true := by decide +kernel
set_option maxRecDepth 65536 in
theorem w_ripe : about1.ripe theMethod args0 below0 = true := by decide +kernel
theorem w_running : about1.status = .running := rfl
set_option maxRecDepth 65536 in
theorem w_room : about1.hasRoom e0.platform room_1 = true :=
  launch0.hasRoom_least _ room_1 (by decide +kernel) (by decide +kernel) (by decide +kernel) (by decide +kernel) (by decide +kernel) (by decide +kernel)
theorem allAtoms_all (ts : List Jvm.Cond) (a : Array Jvm.Value) (st : Jvm.State) : (allAtoms ts).before a st = ts.all (fun c => c.before a st) := by
  induction ts with
  | nil => rfl
  | cons c t ih =>
    show (Jvm.Cond.and c (allAtoms t)).before a st = _
    rw [Jvm.Cond.before_and, ih, List.all_cons]
def words1 : List Jvm.Cond := Jvm.Cond.code x code maxLocals ret :: tables_1
/-- a 'code' word, met by the world's own term for the bytes: nothing is compared byte by byte -/
theorem code_word {y : MethodName} {bytes : ByteArray} {mx : Nat} {rt : Option FieldType} {a : Array Value} {s : State} {m : MethodId} {meth : Method} {c : Code} (h1 : s.methodNamed? y = some m) (h2 : s.vm.method? m = some meth) (h3 : meth.code = some c) (h4 : c.code = bytes)
    (h5 : (c.maxLocals == mx && c.exceptionTable.isEmpty && decide (c.maxStack ≤ mostOperands) && decide (meth.sig.returnType = rt) && !meth.locks && decide (parseMethodDescriptor y.desc = some meth.sig)) = true) : (Jvm.Cond.code y bytes mx rt).before a s = true := by
  simp only [Bool.and_eq_true, beq_iff_eq, Bool.not_eq_true', decide_eq_true_eq] at h5
  obtain ⟨⟨⟨⟨⟨g1, g2⟩, g3⟩, g4⟩, g5⟩, g6⟩ := h5
  simp [Cond.before, Cond.holds, Cond.value, h1, h2, h3, h4, g1, g2, g3, g4, g5, g6]
def isCode : Jvm.Cond → Bool
  | .code _ _ _ _ => true
  | _ => false
theorem all_split {L : List Jvm.Cond} {P : Jvm.Cond → Bool} (h1 : L.all (fun c => isCode c || P c) = true) (h2 : ∀ c ∈ L.filter isCode, P c = true) : L.all P = true := by
  refine List.all_eq_true.mpr fun c hc => ?_
  have h := List.all_eq_true.mp h1 c hc
  rcases Bool.eq_false_or_eq_true (isCode c) with hi | hi
  · exact h2 c (List.mem_filter.mpr ⟨hc, hi⟩)
  · simpa [hi] using h
set_option maxRecDepth 65536 in
theorem w_c0 : (Jvm.Cond.code x code maxLocals ret).before args0 about1 = true := code_word (m := ⟨1, 2⟩) (meth := k1m2) (c := k1c2) (by decide +kernel) rfl rfl rfl (by decide +kernel)
set_option maxRecDepth 65536 in
theorem w_c1 : (Jvm.Cond.code ({ cls := "com/example/fetchwright/fetchwright/service/Provenance", name := "<init>", desc := "()V" } : Jvm.MethodName) prog_12_method_1_code (1 : Nat) (Option.none : Option Jvm.ClassFile.FieldType)).before args0 about1 = true := code_word (m := ⟨2, 0⟩) (meth := k2m0) (c := k2c0) (by decide +kernel) rfl rfl rfl (by decide +kernel)
set_option maxRecDepth 65536 in
theorem w_c2 : (Jvm.Cond.code ({ cls := "java/lang/Object", name := "<init>", desc := "()V" } : Jvm.MethodName) object_method_1_code (1 : Nat) (Option.none : Option Jvm.ClassFile.FieldType)).before args0 about1 = true := code_word (m := ⟨0, 0⟩) (meth := k0m0) (c := k0c0) (by decide +kernel) rfl rfl rfl (by decide +kernel)
set_option maxRecDepth 65536 in
theorem w_c3 : (Jvm.Cond.code ({ cls := "java/util/IdentityHashMap", name := "<init>", desc := "()V" } : Jvm.MethodName) jdk_2581_method_3_code (1 : Nat) (Option.none : Option Jvm.ClassFile.FieldType)).before args0 about1 = true := code_word (m := ⟨7, 0⟩) (meth := k7m0) (c := k7c0) (by decide +kernel) rfl rfl rfl (by decide +kernel)
set_option maxRecDepth 65536 in
theorem w_c4 : (Jvm.Cond.code ({ cls := "java/util/AbstractMap", name := "<init>", desc := "()V" } : Jvm.MethodName) jdk_71_method_1_code (1 : Nat) (Option.none : Option Jvm.ClassFile.FieldType)).before args0 about1 = true := code_word (m := ⟨4, 0⟩) (meth := k4m0) (c := k4c0) (by decide +kernel) rfl rfl rfl (by decide +kernel)
set_option maxRecDepth 65536 in
theorem w_c5 : (Jvm.Cond.code ({ cls := "java/util/IdentityHashMap", name := "init", desc := "(I)V" } : Jvm.MethodName) jdk_2581_method_6_code (2 : Nat) (Option.none : Option Jvm.ClassFile.FieldType)).before args0 about1 = true := code_word (m := ⟨7, 1⟩) (meth := k7m1) (c := k7c1) (by decide +kernel) rfl rfl rfl (by decide +kernel)
set_option maxRecDepth 65536 in
theorem w_c6 : (Jvm.Cond.code ({ cls := "java/util/HashMap", name := "<init>", desc := "()V" } : Jvm.MethodName) jdk_69_method_7_code (1 : Nat) (Option.none : Option Jvm.ClassFile.FieldType)).before args0 about1 = true := code_word (m := ⟨8, 0⟩) (meth := k8m0) (c := k8c0) (by decide +kernel) rfl rfl rfl (by decide +kernel)
set_option maxRecDepth 65536 in
theorem w_c7 : (Jvm.Cond.code ({ cls := "com/example/fetchwright/fetchwright/service/Provenance", name := "awaitsReferences", desc := "()Z" } : Jvm.MethodName) prog_12_method_6_code (1 : Nat) (Option.some Jvm.ClassFile.FieldType.boolean)).before args0 about1 = true := code_word (m := ⟨2, 3⟩) (meth := k2m3) (c := k2c3) (by decide +kernel) rfl rfl rfl (by decide +kernel)
set_option maxRecDepth 65536 in
theorem w_c8 : (Jvm.Cond.code ({ cls := "com/example/fetchwright/fetchwright/service/ProvenanceAwaitsReferencesPinLaw", name := "step", desc := "(Lcom/example/fetchwright/fetchwright/service/Provenance;II)I" } : Jvm.MethodName) method_2_code (4 : Nat) (Option.some Jvm.ClassFile.FieldType.int)).before args0 about1 = true := code_word (m := ⟨1, 1⟩) (meth := k1m1) (c := k1c1) (by decide +kernel) rfl rfl rfl (by decide +kernel)
set_option maxRecDepth 65536 in
theorem w_c9 : (Jvm.Cond.code ({ cls := "com/example/fetchwright/fetchwright/service/Provenance", name := "endedLoadClaimed", desc := "()V" } : Jvm.MethodName) prog_12_method_5_code (1 : Nat) (Option.none : Option Jvm.ClassFile.FieldType)).before args0 about1 = true := code_word (m := ⟨2, 2⟩) (meth := k2m2) (c := k2c2) (by decide +kernel) rfl rfl rfl (by decide +kernel)
set_option maxRecDepth 65536 in
theorem w_c10 : (Jvm.Cond.code ({ cls := "com/example/fetchwright/fetchwright/service/Provenance", name := "endedUnclaimed", desc := "()V" } : Jvm.MethodName) prog_12_method_4_code (1 : Nat) (Option.none : Option Jvm.ClassFile.FieldType)).before args0 about1 = true := code_word (m := ⟨2, 1⟩) (meth := k2m1) (c := k2c1) (by decide +kernel) rfl rfl rfl (by decide +kernel)
def codes1 : List Jvm.Cond := [Jvm.Cond.code x code maxLocals ret, Jvm.Cond.code ({ cls := "com/example/fetchwright/fetchwright/service/Provenance", name := "<init>", desc := "()V" } : Jvm.MethodName) prog_12_method_1_code (1 : Nat) (Option.none : Option Jvm.ClassFile.FieldType), Jvm.Cond.code ({ cls := "java/lang/Object", name := "<init>", desc := "()V" } : Jvm.MethodName) object_method_1_code (1 : Nat) (Option.none : Option Jvm.ClassFile.FieldType), Jvm.Cond.code ({ cls := "java/util/IdentityHashMap", name := "<init>", desc := "()V" } : Jvm.MethodName) jdk_2581_method_3_code (1 : Nat) (Option.none : Option Jvm.ClassFile.FieldType), Jvm.Cond.code ({ cls := "java/util/AbstractMap", name := "<init>", desc := "()V" } : Jvm.MethodName) jdk_71_method_1_code (1 : Nat) (Option.none : Option Jvm.ClassFile.FieldType), Jvm.Cond.code ({ cls := "java/util/IdentityHashMap", name := "init", desc := "(I)V" } : Jvm.MethodName) jdk_2581_method_6_code (2 : Nat) (Option.none : Option Jvm.ClassFile.FieldType), Jvm.Cond.code ({ cls := "java/util/HashMap", name := "<init>", desc := "()V" } : Jvm.MethodName) jdk_69_method_7_code (1 : Nat) (Option.none : Option Jvm.ClassFile.FieldType), Jvm.Cond.code ({ cls := "com/example/fetchwright/fetchwright/service/Provenance", name := "awaitsReferences", desc := "()Z" } : Jvm.MethodName) prog_12_method_6_code (1 : Nat) (Option.some Jvm.ClassFile.FieldType.boolean), Jvm.Cond.code ({ cls := "com/example/fetchwright/fetchwright/service/ProvenanceAwaitsReferencesPinLaw", name := "step", desc := "(Lcom/example/fetchwright/fetchwright/service/Provenance;II)I" } : Jvm.MethodName) method_2_code (4 : Nat) (Option.some Jvm.ClassFile.FieldType.int), Jvm.Cond.code ({ cls := "com/example/fetchwright/fetchwright/service/Provenance", name := "endedLoadClaimed", desc := "()V" } : Jvm.MethodName) prog_12_method_5_code (1 : Nat) (Option.none : Option Jvm.ClassFile.FieldType), Jvm.Cond.code ({ cls := "com/example/fetchwright/fetchwright/service/Provenance", name := "endedUnclaimed", desc := "()V" } : Jvm.MethodName) prog_12_method_4_code (1 : Nat) (Option.none : Option Jvm.ClassFile.FieldType)]
set_option maxRecDepth 65536 in
theorem codes_eq : words1.filter isCode = codes1 := rfl
theorem w_codes : ∀ c ∈ words1.filter isCode, c.before args0 about1 = true := by
  rw [codes_eq]
  intro c hc
  simp only [codes1, List.mem_cons, List.not_mem_nil, or_false] at hc
  rcases hc with rfl | rfl | rfl | rfl | rfl | rfl | rfl | rfl | rfl | rfl | rfl
  · exact w_c0
  · exact w_c1
  · exact w_c2
  · exact w_c3
  · exact w_c4
  · exact w_c5
  · exact w_c6
  · exact w_c7
  · exact w_c8
  · exact w_c9
  · exact w_c10
set_option maxRecDepth 65536 in
theorem w_t1 : (words1.take 24).all (fun c => isCode c || c.before args0 about1) = true := by decide +kernel
set_option maxRecDepth 65536 in
theorem w_t2 : ((words1.drop 24).take 24).all (fun c => isCode c || c.before args0 about1) = true := by decide +kernel
set_option maxRecDepth 65536 in
theorem w_t3 : ((words1.drop 24).drop 24).all (fun c => isCode c || c.before args0 about1) = true := by decide +kernel
theorem w_tables : (allAtoms (Jvm.Cond.code x code maxLocals ret :: tables_1)).before args0 about1 = true := by
  rw [allAtoms_all]
  show words1.all (fun c => c.before args0 about1) = true
  refine all_split ?_ w_codes
  rw [← List.take_append_drop 24 words1, List.all_append, w_t1, ← List.take_append_drop 24 (words1.drop 24), List.all_append, w_t2, w_t3]
  rfl
set_option maxRecDepth 65536 in
theorem w_case : (Jvm.Cond.and given_1 narrow_1).before args0 about1 = true := by decide +kernel
theorem w_applies : (headSpec (Jvm.Cond.code x code maxLocals ret :: tables_1) room_1).applies x e0.platform about1 = true :=
  (Spec.applies_iff w_frames).mpr ⟨w_running, w_runnable, w_alone, w_named, w_hears, w_ripe, w_room, w_tables⟩
theorem atStart : AtStart classFile x code maxLocals ret World_1 tables_1 room_1 Calls_1 rest_1 Pre_1 launch0 p0 e0 about1 theMethod args0 below0 :=
  ⟨lists_1, trivial, launch0.admits_env _ _ _, launch0.least_env, fairChoices_fair.cas, fairChoices_fair.clock, w_frames, w_args, w_heap, w_applies, trivial, trivial, w_case⟩
end start1
theorem witness_1 : WitnessClaimed_1 := ⟨start1.p0, start1.e0, start1.about1, start1.theMethod, start1.args0, start1.below0, start1.atStart⟩
end Jvm.Pilot.@@N@@
