import JvmDerived
import JvmDerived.Pilot.@@N@@Statement
import JvmDerived.Pilot.@@N@@Code
set_option linter.unusedVariables false
set_option linter.unusedSimpArgs false
namespace Jvm.RoadKit
open Sem ClassFile Op Lib Jvm.Stand Jvm.Free Jvm.LawKit
section New
variable {p : Program} {l : Launch} {e : Env} {R : Room} {s : State} {m : MethodId} {args : Array Value} {below : List Frame} {meth : Method} {c : Code} {T : State} {locs : List Loc} {cells slots : Nat}
theorem retI (X : Stand p l e R s m args below meth c T locs cells slots) (hx : p.tables.exec = Jvm.exec) {pc : Nat} {Ls : Array Slot} {z : Int32} {rest : List Value} (hret : meth.sig.returnType = some .int) (hd : decode c.code pc = .ok (.ireturn, 1)) {fs : List Frame}
    (hl : ∀ (f : JFrame) (acts : List Action), f.method = m → f.locked = none → f.entered = [] → (doReturn e (T.setTop f) acts (some (.int z))).1 = T.setFrames fs) : Steps p.tables e below (T.setTop (mkF m pc Ls (.int z :: rest))) (T.setFrames fs) := by
  have hm' : T.vm.method? m = some meth := X.method'
  have hn : narrow .int (.int z) = .int z := rfl
  show Steps p.tables e below (T.setTop { method := m, pc := pc, locals := Ls, stack := _ :: rest, locked := none }) _
  jvm_step X.here [X.here.top, hx, hd, hm', hret, hn]
  first | (intro acts; rw [hl _ acts rfl rfl rfl]) | rw [hl _ _ rfl rfl rfl]
  exact Steps.refl _
end New
end Jvm.RoadKit
namespace Jvm.Pilot.@@N@@
open Jvm Jvm.ClassFile Sem Op Lib Jvm.Free Jvm.Stand Jvm.LawKit Jvm.RoadKit Bundle Jvm.Pilot.@@N@@.Jvm.D
theorem d1_0 : decode jdk_38_method_2_code 0 = .ok (.aload_n 0, 1) := by decide +kernel
theorem d1_1 : decode jdk_38_method_2_code 1 = .ok (.invokespecial 1, 3) := by decide +kernel
theorem d1_4 : decode jdk_38_method_2_code 4 = .ok (.aload_n 0, 1) := by decide +kernel
theorem d1_5 : decode jdk_38_method_2_code 5 = .ok (.getstatic 39, 3) := by decide +kernel
theorem d1_8 : decode jdk_38_method_2_code 8 = .ok (.putfield 9, 3) := by decide +kernel
theorem d1_11 : decode jdk_38_method_2_code 11 = .ok (.return_, 1) := by decide +kernel
theorem d2_0 : decode jdk_39_method_1_code 0 = .ok (.aload_n 0, 1) := by decide +kernel
theorem d2_1 : decode jdk_39_method_1_code 1 = .ok (.invokespecial 1, 3) := by decide +kernel
theorem d2_4 : decode jdk_39_method_1_code 4 = .ok (.aload_n 0, 1) := by decide +kernel
theorem d2_5 : decode jdk_39_method_1_code 5 = .ok (.iconst 0, 1) := by decide +kernel
theorem d2_6 : decode jdk_39_method_1_code 6 = .ok (.putfield 7, 3) := by decide +kernel
theorem d2_9 : decode jdk_39_method_1_code 9 = .ok (.return_, 1) := by decide +kernel
theorem d3_0 : decode jdk_22_method_1_code 0 = .ok (.aload_n 0, 1) := by decide +kernel
theorem d3_1 : decode jdk_22_method_1_code 1 = .ok (.invokespecial 1, 3) := by decide +kernel
theorem d3_4 : decode jdk_22_method_1_code 4 = .ok (.return_, 1) := by decide +kernel
theorem d5_0 : decode prog_18_method_2_code 0 = .ok (.aload_n 0, 1) := by decide +kernel
theorem d5_1 : decode prog_18_method_2_code 1 = .ok (.invokespecial 7, 3) := by decide +kernel
theorem d5_4 : decode prog_18_method_2_code 4 = .ok (.aload_n 0, 1) := by decide +kernel
theorem d5_5 : decode prog_18_method_2_code 5 = .ok (.aload_n 1, 1) := by decide +kernel
theorem d5_6 : decode prog_18_method_2_code 6 = .ok (.putfield 12, 3) := by decide +kernel
theorem d5_9 : decode prog_18_method_2_code 9 = .ok (.aload_n 0, 1) := by decide +kernel
theorem d5_10 : decode prog_18_method_2_code 10 = .ok (.aload_n 1, 1) := by decide +kernel
theorem d5_11 : decode prog_18_method_2_code 11 = .ok (.invokeinterface 16 1, 5) := by decide +kernel
theorem d5_16 : decode prog_18_method_2_code 16 = .ok (.invokestatic 22, 3) := by decide +kernel
theorem d5_19 : decode prog_18_method_2_code 19 = .ok (.putfield 26, 3) := by decide +kernel
theorem d5_22 : decode prog_18_method_2_code 22 = .ok (.aload_n 0, 1) := by decide +kernel
theorem d5_23 : decode prog_18_method_2_code 23 = .ok (.iconst 1, 1) := by decide +kernel
theorem d5_24 : decode prog_18_method_2_code 24 = .ok (.iload_n 2, 1) := by decide +kernel
theorem d5_25 : decode prog_18_method_2_code 25 = .ok (.invokestatic 29, 3) := by decide +kernel
theorem d5_28 : decode prog_18_method_2_code 28 = .ok (.newarray .long, 2) := by decide +kernel
theorem d5_30 : decode prog_18_method_2_code 30 = .ok (.putfield 35, 3) := by decide +kernel
theorem d5_33 : decode prog_18_method_2_code 33 = .ok (.aload_n 0, 1) := by decide +kernel
theorem d5_34 : decode prog_18_method_2_code 34 = .ok (.aload_n 0, 1) := by decide +kernel
theorem d5_35 : decode prog_18_method_2_code 35 = .ok (.getfield 35, 3) := by decide +kernel
theorem d5_38 : decode prog_18_method_2_code 38 = .ok (.arraylength, 1) := by decide +kernel
theorem d5_39 : decode prog_18_method_2_code 39 = .ok (.aload_n 0, 1) := by decide +kernel
theorem d5_40 : decode prog_18_method_2_code 40 = .ok (.getfield 26, 3) := by decide +kernel
theorem d5_43 : decode prog_18_method_2_code 43 = .ok (.imul, 1) := by decide +kernel
theorem d5_44 : decode prog_18_method_2_code 44 = .ok (.newarray .long, 2) := by decide +kernel
theorem d5_46 : decode prog_18_method_2_code 46 = .ok (.putfield 39, 3) := by decide +kernel
theorem d5_49 : decode prog_18_method_2_code 49 = .ok (.return_, 1) := by decide +kernel
theorem d6_0 : decode jdk_38_method_8_code 0 = .ok (.aload_n 0, 1) := by decide +kernel
theorem d6_1 : decode jdk_38_method_8_code 1 = .ok (.getfield 48, 3) := by decide +kernel
theorem d6_4 : decode jdk_38_method_8_code 4 = .ok (.ireturn, 1) := by decide +kernel
theorem d7_0 : decode prog_18_method_3_code 0 = .ok (.iconst 1, 1) := by decide +kernel
theorem d7_1 : decode prog_18_method_3_code 1 = .ok (.iload_n 0, 1) := by decide +kernel
theorem d7_2 : decode prog_18_method_3_code 2 = .ok (.bipush 64, 2) := by decide +kernel
theorem d7_4 : decode prog_18_method_3_code 4 = .ok (.iadd, 1) := by decide +kernel
theorem d7_5 : decode prog_18_method_3_code 5 = .ok (.iconst 1, 1) := by decide +kernel
theorem d7_6 : decode prog_18_method_3_code 6 = .ok (.isub, 1) := by decide +kernel
theorem d7_7 : decode prog_18_method_3_code 7 = .ok (.bipush 64, 2) := by decide +kernel
theorem d7_9 : decode prog_18_method_3_code 9 = .ok (.idiv, 1) := by decide +kernel
theorem d7_10 : decode prog_18_method_3_code 10 = .ok (.invokestatic 29, 3) := by decide +kernel
theorem d7_13 : decode prog_18_method_3_code 13 = .ok (.ireturn, 1) := by decide +kernel
theorem d8_0 : decode jdk_29_method_65_code 0 = .ok (.iload_n 0, 1) := by decide +kernel
theorem d8_1 : decode jdk_29_method_65_code 1 = .ok (.iload_n 1, 1) := by decide +kernel
theorem d8_2 : decode jdk_29_method_65_code 2 = .ok (.if_icmp .lt 7, 3) := by decide +kernel
theorem d8_5 : decode jdk_29_method_65_code 5 = .ok (.iload_n 0, 1) := by decide +kernel
theorem d8_6 : decode jdk_29_method_65_code 6 = .ok (.goto 4, 3) := by decide +kernel
theorem d8_9 : decode jdk_29_method_65_code 9 = .ok (.iload_n 1, 1) := by decide +kernel
theorem d8_10 : decode jdk_29_method_65_code 10 = .ok (.ireturn, 1) := by decide +kernel
theorem d9_0 : decode prog_18_method_7_code 0 = .ok (.aload_n 0, 1) := by decide +kernel
theorem d9_1 : decode prog_18_method_7_code 1 = .ok (.getfield 39, 3) := by decide +kernel
theorem d9_4 : decode prog_18_method_7_code 4 = .ok (.iload_n 1, 1) := by decide +kernel
theorem d9_5 : decode prog_18_method_7_code 5 = .ok (.aload_n 0, 1) := by decide +kernel
theorem d9_6 : decode prog_18_method_7_code 6 = .ok (.getfield 26, 3) := by decide +kernel
theorem d9_9 : decode prog_18_method_7_code 9 = .ok (.imul, 1) := by decide +kernel
theorem d9_10 : decode prog_18_method_7_code 10 = .ok (.iload_n 2, 1) := by decide +kernel
theorem d9_11 : decode prog_18_method_7_code 11 = .ok (.bipush 64, 2) := by decide +kernel
theorem d9_13 : decode prog_18_method_7_code 13 = .ok (.idiv, 1) := by decide +kernel
theorem d9_14 : decode prog_18_method_7_code 14 = .ok (.iadd, 1) := by decide +kernel
theorem d9_15 : decode prog_18_method_7_code 15 = .ok (.dup2, 1) := by decide +kernel
theorem d9_16 : decode prog_18_method_7_code 16 = .ok (.laload, 1) := by decide +kernel
theorem d9_17 : decode prog_18_method_7_code 17 = .ok (.lconst 1, 1) := by decide +kernel
theorem d9_18 : decode prog_18_method_7_code 18 = .ok (.iload_n 2, 1) := by decide +kernel
theorem d9_19 : decode prog_18_method_7_code 19 = .ok (.lshl, 1) := by decide +kernel
theorem d9_20 : decode prog_18_method_7_code 20 = .ok (.lor, 1) := by decide +kernel
theorem d9_21 : decode prog_18_method_7_code 21 = .ok (.lastore, 1) := by decide +kernel
theorem d9_22 : decode prog_18_method_7_code 22 = .ok (.return_, 1) := by decide +kernel
theorem d10_0 : decode method_3_code 0 = .ok (.iload_n 0, 1) := by decide +kernel
theorem d10_1 : decode method_3_code 1 = .ok (.iload_n 1, 1) := by decide +kernel
theorem d10_2 : decode method_3_code 2 = .ok (.if_icmp .eq 5, 3) := by decide +kernel
theorem d10_5 : decode method_3_code 5 = .ok (.lconst 0, 1) := by decide +kernel
theorem d10_6 : decode method_3_code 6 = .ok (.lreturn, 1) := by decide +kernel
theorem d10_7 : decode method_3_code 7 = .ok (.lconst 1, 1) := by decide +kernel
theorem d10_8 : decode method_3_code 8 = .ok (.iload_n 2, 1) := by decide +kernel
theorem d10_9 : decode method_3_code 9 = .ok (.lshl, 1) := by decide +kernel
theorem d10_10 : decode method_3_code 10 = .ok (.lreturn, 1) := by decide +kernel
theorem d11_0 : decode prog_18_method_6_code 0 = .ok (.aload_n 0, 1) := by decide +kernel
theorem d11_1 : decode prog_18_method_6_code 1 = .ok (.getfield 39, 3) := by decide +kernel
theorem d11_4 : decode prog_18_method_6_code 4 = .ok (.iload_n 1, 1) := by decide +kernel
theorem d11_5 : decode prog_18_method_6_code 5 = .ok (.aload_n 0, 1) := by decide +kernel
theorem d11_6 : decode prog_18_method_6_code 6 = .ok (.getfield 26, 3) := by decide +kernel
theorem d11_9 : decode prog_18_method_6_code 9 = .ok (.imul, 1) := by decide +kernel
theorem d11_10 : decode prog_18_method_6_code 10 = .ok (.iload_n 2, 1) := by decide +kernel
theorem d11_11 : decode prog_18_method_6_code 11 = .ok (.iadd, 1) := by decide +kernel
theorem d11_12 : decode prog_18_method_6_code 12 = .ok (.laload, 1) := by decide +kernel
theorem d11_13 : decode prog_18_method_6_code 13 = .ok (.lreturn, 1) := by decide +kernel
theorem d12_0 : decode prog_18_method_4_code 0 = .ok (.aload_n 0, 1) := by decide +kernel
theorem d12_1 : decode prog_18_method_4_code 1 = .ok (.getfield 44, 3) := by decide +kernel
theorem d12_4 : decode prog_18_method_4_code 4 = .ok (.ireturn, 1) := by decide +kernel
theorem pn_0 : plainName "java/util/AbstractCollection" = true := by first | (simp [plainName, overriddenIn]; done) | decide +kernel
theorem pn_1 : plainName "java/util/AbstractList" = true := by first | (simp [plainName, overriddenIn]; done) | decide +kernel
theorem pn_2 : plainName "java/util/ArrayList" = true := by first | (simp [plainName, overriddenIn]; done) | decide +kernel
theorem pn_3 : plainName "com/example/fairmesh/fairmesh/node/AskedChunks" = true := by first | (simp [plainName, overriddenIn]; done) | decide +kernel
theorem pn_4 : plainName "com/example/fairmesh/fairmesh/node/AskedChunksAskPinLaw" = true := by first | (simp [plainName, overriddenIn]; done) | decide +kernel
theorem pd_0 : parseMethodDescriptor "()V" = some ⟨[], none⟩ := by decide +kernel
theorem pd_1 : parseMethodDescriptor "()I" = some ⟨[], some .int⟩ := by decide +kernel
theorem pd_2 : parseMethodDescriptor "(II)I" = some ⟨[.int, .int], some .int⟩ := by decide +kernel
theorem pd_3 : parseMethodDescriptor "(I)I" = some ⟨[.int], some .int⟩ := by decide +kernel
theorem pd_4 : parseMethodDescriptor "(Ljava/util/List;I)V" = some ⟨[(.object "java/util/List"), .int], none⟩ := by decide +kernel
theorem pd_5 : parseMethodDescriptor "(II)V" = some ⟨[.int, .int], none⟩ := by decide +kernel
theorem pd_6 : parseMethodDescriptor "(III)J" = some ⟨[.int, .int, .int], some .long⟩ := by decide +kernel
theorem pd_7 : parseMethodDescriptor "(II)J" = some ⟨[.int, .int], some .long⟩ := by decide +kernel
theorem own_nar1 {x : Int32} (h : x = 1) : nar .boolean x = 1 := by subst h; rfl
theorem own_n0 : nar .boolean (0 : Int32) = 0 := rfl
theorem own_n1 : nar .boolean (1 : Int32) = 1 := rfl
theorem own_d0 (y : Int32) : (y &&& (63 : Int32)) / (64 : Int32) = 0 := by
  have h1 := c_mask y 63 6 (by decide) (by decide)
  have h3 : ((2 ^ 6 : Nat) : Int) = 64 := by decide
  rw [h3] at h1
  have h2 := (c_idiv (y &&& 63) 64 64 (by decide) (by decide)).1 (by omega)
  rw [← Int32.toInt_inj, h2, show (0 : Int32).toInt = 0 from by decide]
  omega
def Q3 (Z : State) (r0 : Addr) (h0 : Heap) (n0 : Nat) (v : Option Value) (h : Heap) (L : List Loc) : Prop := v = none ∧ Fr n0 L ∧ h = h0
theorem ef_3 (m : MethodId) (x0 : Addr) : entryFrame m #[(.ref x0)] 1 = mkF m 0 #[.val (.ref x0)] [] := by first | (simp [entryFrame, mkF, argsToLocals, Value.category]; done) | rfl
set_option maxRecDepth 65536 in
set_option maxHeartbeats 40000000 in
theorem rm3 (l : Launch) (Z : State) (a0 : Array Value) (hw : ∀ d ∈ tables_1, d.before a0 Z = true) (ws : List Jvm.Cond) (r0 : Addr) (h0 : Heap) (n0 : Nat) (Z0 : n0 ≤ h0.size) :
    MetFree l (⟨"java/util/AbstractCollection", "<init>", "()V"⟩ : MethodName) (head1 (Jvm.Cond.code (⟨"java/util/AbstractCollection", "<init>", "()V"⟩ : MethodName) jdk_22_method_1_code 1 none :: ws) ({ frames := 1, cells := 0, slots := 0, locals := 12 } : Room)) (fun a U => a = #[(.ref r0)] ∧ Z.Warmed39 U.vm ∧ U.heap = h0) (fun _ _ _ _ _ => True) (fun _ U o U' => ∃ v L, o = .returned v ∧ Q3 Z r0 h0 n0 v U'.heap L ∧ FrameEnd U o U' L ({ frames := 1, cells := 0, slots := 0, locals := 12 } : Room).cells ({ frames := 1, cells := 0, slots := 0, locals := 12 } : Room).slots) := by
  refine MetFree.of_bodySF (plainFor_of_name pn_0) hisR ?_
  intro p e s m args below meth c s₁ Bd hml0 hP hK
  obtain ⟨rfl, hZ, hh⟩ := hP
  have hx := Bd.exec
  have hby := Bd.bytes
  have hml : c.maxLocals = 1 := hml0
  have hown : s.vm.findClass "java/util/AbstractCollection" = some m.cls := findClass_of_methodNamed Bd.named
  have hnm := (name_of_methodNamed Bd.named Bd.method).1
  have X0 : Stand p l e ({ frames := 1, cells := 0, slots := 0, locals := 12 } : Room) s m #[(.ref r0)] below meth c s₁ [] 0 0 := Stand.of_body Bd
  have e0 : s₁.heap = h0 := by rw [← hh, Bd.state]; rfl
  have N0 := Fr.nil n0
  have pre0 : ∀ t, Steps p.tables e below (s₁.setTop (mkF m 0 #[.val (.ref r0)] [])) t → Steps p.tables e below (s₁.setTop (entryFrame m #[(.ref r0)] 1)) t := fun t k => castTop (ef_3 m r0) k
  obtain ⟨T1, X1, e1, st1⟩ := initO X0 hx hZ hown (hw _ (List.mem_of_getElem? (i := 21) rfl)) (hw _ (List.mem_of_getElem? (i := 22) rfl)) (hw _ (List.mem_of_getElem? (i := 23) rfl)) e0 (g := (mkF m 1 #[.val (.ref r0)] [(.ref r0)])) rfl (by rw [hml]; rfl) rfl (hb hby d3_1) (by decide) (W := 0) (by show 2 * 0 + _ ≤ _; exact Nat.le_of_eq rfl) (by decide)
  have pre2 : ∀ t, Steps p.tables e below (T1.setTop (mkF m 4 #[.val (.ref r0)] [])) t → Steps p.tables e below (s₁.setTop (entryFrame m #[(.ref r0)] 1)) t := by
    intro t k
    refine pre0 _ ?_
    show Steps p.tables e below (s₁.setTop (mkF m 0 #[.val (.ref r0)] [])) _
    refine XS.aloadN X0.here hx rfl (hb hby d3_0) rfl rfl ?_
    show Steps p.tables e below (s₁.setTop (mkF m 1 #[.val (.ref r0)] [(.ref r0)])) _
    refine st1 _ ?_
    exact k
  obtain ⟨fs, hr, hrun, hended, hW, hsame⟩ := X1.leave (v := none) (fun _ => rfl)
  refine ⟨_, _, pre2 _ ?_, hrun, hended, _, _, rfl, ?_, ⟨_, rfl⟩, hW, hsame.mono (by decide) (by decide)⟩
  · show Steps p.tables e below (T1.setTop (mkF m 4 #[.val (.ref r0)] [])) _
    exact X1.returnOut hx Bd.returns (hb hby d3_4) hr
  · show Q3 Z r0 h0 n0 _ T1.heap _
    rw [e1]
    exact ⟨rfl, N0, rfl⟩
def Q2 (Z : State) (r0 : Addr) (u_elementData_r0 : Value) (u_size_r0 : Value) (u_modCount_r0 : Value) (h0 : Heap) (n0 : Nat) (v : Option Value) (h : Heap) (L : List Loc) : Prop := v = none ∧ Fr n0 L ∧ Keep h0 h [r0] ∧ Exa Z h r0 "java/util/ArrayList" ∧ Fld Z h r0 "java/util/AbstractList" "modCount" "I" (.int (0 : Int32)) ∧ Fld Z h r0 "java/util/ArrayList" "elementData" "[Ljava/lang/Object;" u_elementData_r0 ∧ Fld Z h r0 "java/util/ArrayList" "size" "I" u_size_r0
theorem ef_2 (m : MethodId) (x0 : Addr) : entryFrame m #[(.ref x0)] 1 = mkF m 0 #[.val (.ref x0)] [] := by first | (simp [entryFrame, mkF, argsToLocals, Value.category]; done) | rfl
set_option maxRecDepth 65536 in
set_option maxHeartbeats 40000000 in
theorem rm2 (l : Launch) (Z : State) (a0 : Array Value) (hw : ∀ d ∈ tables_1, d.before a0 Z = true) (ws : List Jvm.Cond) (r0 : Addr) (u_elementData_r0 : Value) (u_size_r0 : Value) (u_modCount_r0 : Value) (h0 : Heap) (n0 : Nat) (Z0 : n0 ≤ h0.size) (F_elementData_r0 : Fld Z h0 r0 "java/util/ArrayList" "elementData" "[Ljava/lang/Object;" u_elementData_r0) (F_size_r0 : Fld Z h0 r0 "java/util/ArrayList" "size" "I" u_size_r0) (E_r0 : Exa Z h0 r0 "java/util/ArrayList") (F_modCount_r0 : Fld Z h0 r0 "java/util/AbstractList" "modCount" "I" u_modCount_r0) (g_r0 : n0 ≤ r0) :
    MetFree l (⟨"java/util/AbstractList", "<init>", "()V"⟩ : MethodName) (head1 (Jvm.Cond.code (⟨"java/util/AbstractList", "<init>", "()V"⟩ : MethodName) jdk_39_method_1_code 1 none :: ws) ({ frames := 2, cells := 0, slots := 0, locals := 24 } : Room)) (fun a U => a = #[(.ref r0)] ∧ Z.Warmed39 U.vm ∧ U.heap = h0) (fun _ _ _ _ _ => True) (fun _ U o U' => ∃ v L, o = .returned v ∧ Q2 Z r0 u_elementData_r0 u_size_r0 u_modCount_r0 h0 n0 v U'.heap L ∧ FrameEnd U o U' L ({ frames := 2, cells := 0, slots := 0, locals := 24 } : Room).cells ({ frames := 2, cells := 0, slots := 0, locals := 24 } : Room).slots) := by
  refine MetFree.of_bodySF (plainFor_of_name pn_1) hisR ?_
  intro p e s m args below meth c s₁ Bd hml0 hP hK
  obtain ⟨rfl, hZ, hh⟩ := hP
  have hx := Bd.exec
  have hby := Bd.bytes
  have hml : c.maxLocals = 1 := hml0
  have hown : s.vm.findClass "java/util/AbstractList" = some m.cls := findClass_of_methodNamed Bd.named
  have hnm := (name_of_methodNamed Bd.named Bd.method).1
  have X0 : Stand p l e ({ frames := 2, cells := 0, slots := 0, locals := 24 } : Room) s m #[(.ref r0)] below meth c s₁ [] 0 0 := Stand.of_body Bd
  have e0 : s₁.heap = h0 := by rw [← hh, Bd.state]; rfl
  have N0 := Fr.nil n0
  have pre0 : ∀ t, Steps p.tables e below (s₁.setTop (mkF m 0 #[.val (.ref r0)] [])) t → Steps p.tables e below (s₁.setTop (entryFrame m #[(.ref r0)] 1)) t := fun t k => castTop (ef_2 m r0) k
  obtain ⟨_, _, ⟨T1, L1, k1, n1⟩, -, X1, ⟨Lc1, hQ1, l1, y1, z1⟩, st1⟩ := X0.specialBack hx (y := (⟨"java/util/AbstractCollection", "<init>", "()V"⟩ : MethodName)) rfl hown (mvT hZ (hw _ (List.mem_of_getElem? (i := 15) rfl))) (mvT hZ (hw _ (List.mem_of_getElem? (i := 16) rfl))) (mvT hZ (hw _ (List.mem_of_getElem? (i := 20) rfl))) (by decide) (backOf (W := 0) (rm3 l Z a0 hw [] r0 h0 n0 (Nat.le_trans Z0 (Keep.refl h0 [r0]).1) ) hZ (hw _ (List.mem_of_getElem? (i := 20) rfl)) (hw _ (List.mem_of_getElem? (i := 19) rfl)) (by decide) (by decide)) (g := (mkF m 1 #[.val (.ref r0)] [(.ref r0)])) rfl (by rw [hml]; rfl) (Steps.refl _) (a := r0) (argsL := []) (rest := []) (lenOf pd_0 rfl) rfl (by show 2 * 0 + _ ≤ _; exact Nat.le_of_eq rfl) (hb hby d2_1) (fun _ _ => ⟨rfl, e0, (by decide : 0 + 0 ≤ _), (by decide : 0 + 0 ≤ _)⟩)
  dsimp only [Pt.U, Pt.locs, Pt.cells, Pt.slots] at X1 l1 y1 z1 st1 hQ1
  subst l1 y1 z1
  obtain ⟨rfl, Nq1, e1⟩ := hQ1
  have N1 := Fr.app N0 Nq1
  obtain ⟨T2, h2, X2, e2, W2, st2⟩ := putF X1 hx hZ hown (host := "") (Or.inl (hw _ (List.mem_of_getElem? (i := 24) rfl))) Via.refl e1 F_modCount_r0 E_r0 (Or.inl (hw _ (List.mem_of_getElem? (i := 25) rfl))) (hw _ (List.mem_of_getElem? (i := 4) rfl)) (ty := .int) (by decide) rfl rfl (g := (mkF m 6 #[.val (.ref r0)] [(.int (0 : Int32)), (.ref r0)])) rfl rfl (hb hby d2_6)
  have N2 := Fr.snoc X2 N1 g_r0
  have K3 : Keep h0 h2 [r0] := (Keep.refl h0 [r0]).wr W2 (Or.inl (List.mem_of_getElem? (i := 0) rfl))
  have F2 := F_modCount_r0.same W2
  have pre4 : ∀ t, Steps p.tables e below (T2.setTop (mkF m 9 #[.val (.ref r0)] [])) t → Steps p.tables e below (s₁.setTop (entryFrame m #[(.ref r0)] 1)) t := by
    intro t k
    refine pre0 _ ?_
    show Steps p.tables e below (s₁.setTop (mkF m 0 #[.val (.ref r0)] [])) _
    refine XS.aloadN X0.here hx rfl (hb hby d2_0) rfl rfl ?_
    show Steps p.tables e below (s₁.setTop (mkF m 1 #[.val (.ref r0)] [(.ref r0)])) _
    refine st1.trans ?_
    show Steps p.tables e below (T1.setTop (mkF m 4 #[.val (.ref r0)] [])) _
    refine XS.aloadN X1.here hx rfl (hb hby d2_4) rfl rfl ?_
    show Steps p.tables e below (T1.setTop (mkF m 5 #[.val (.ref r0)] [(.ref r0)])) _
    refine XS.iconst X1.here hx rfl (hb hby d2_5) ?_
    show Steps p.tables e below (T1.setTop (mkF m 6 #[.val (.ref r0)] [(.int (0 : Int32)), (.ref r0)])) _
    refine st2 _ ?_
    exact k
  have f5 := (E_r0.wr W2)
  have f6 := (F_elementData_r0.other W2 (Or.inr (slot_ne (Or.inl (hw _ (List.mem_of_getElem? (i := 28) rfl))) (Or.inl (hw _ (List.mem_of_getElem? (i := 25) rfl))) (by decide) (t := (.array (.object "java/lang/Object"))) (t' := .int) (by decide) (by decide))))
  have f7 := (F_size_r0.other W2 (Or.inr (slot_ne (Or.inl (hw _ (List.mem_of_getElem? (i := 45) rfl))) (Or.inl (hw _ (List.mem_of_getElem? (i := 25) rfl))) (by decide) (t := .int) (t' := .int) (by decide) (by decide))))
  obtain ⟨fs, hr, hrun, hended, hW, hsame⟩ := X2.leave (v := none) (fun _ => rfl)
  refine ⟨_, _, pre4 _ ?_, hrun, hended, _, _, rfl, ?_, ⟨_, rfl⟩, hW, hsame.mono (by decide) (by decide)⟩
  · show Steps p.tables e below (T2.setTop (mkF m 9 #[.val (.ref r0)] [])) _
    exact X2.returnOut hx Bd.returns (hb hby d2_9) hr
  · show Q2 Z r0 u_elementData_r0 u_size_r0 u_modCount_r0 h0 n0 _ T2.heap _
    rw [e2]
    exact ⟨rfl, N2, K3, f5, F2, f6, f7⟩
def Q1 (Z : State) (r0 : Addr) (u_elementData_r0 : Value) (u_size_r0 : Value) (u_modCount_r0 : Value) (w_DEFAULTCAPACITY_EMPTY_ELEMENTDATA : Addr) (h0 : Heap) (n0 : Nat) (v : Option Value) (h : Heap) (L : List Loc) : Prop := v = none ∧ Fr n0 L ∧ Keep h0 h [r0] ∧ Exa Z h r0 "java/util/ArrayList" ∧ Fld Z h r0 "java/util/AbstractList" "modCount" "I" (.int (0 : Int32)) ∧ Fld Z h r0 "java/util/ArrayList" "elementData" "[Ljava/lang/Object;" (.ref w_DEFAULTCAPACITY_EMPTY_ELEMENTDATA) ∧ Fld Z h r0 "java/util/ArrayList" "size" "I" u_size_r0
theorem ef_1 (m : MethodId) (x0 : Addr) : entryFrame m #[(.ref x0)] 1 = mkF m 0 #[.val (.ref x0)] [] := by first | (simp [entryFrame, mkF, argsToLocals, Value.category]; done) | rfl
set_option maxRecDepth 65536 in
set_option maxHeartbeats 40000000 in
theorem rm1 (l : Launch) (Z : State) (a0 : Array Value) (hw : ∀ d ∈ tables_1, d.before a0 Z = true) (ws : List Jvm.Cond) (r0 : Addr) (u_elementData_r0 : Value) (u_size_r0 : Value) (u_modCount_r0 : Value) (w_DEFAULTCAPACITY_EMPTY_ELEMENTDATA : Addr) (h0 : Heap) (n0 : Nat) (Z0 : n0 ≤ h0.size) (F_elementData_r0 : Fld Z h0 r0 "java/util/ArrayList" "elementData" "[Ljava/lang/Object;" u_elementData_r0) (F_size_r0 : Fld Z h0 r0 "java/util/ArrayList" "size" "I" u_size_r0) (E_r0 : Exa Z h0 r0 "java/util/ArrayList") (F_modCount_r0 : Fld Z h0 r0 "java/util/AbstractList" "modCount" "I" u_modCount_r0) (g_r0 : n0 ≤ r0) (S_DEFAULTCAPACITY_EMPTY_ELEMENTDATA : Sta Z Z.heap "java/util/ArrayList" "DEFAULTCAPACITY_EMPTY_ELEMENTDATA" "[Ljava/lang/Object;" (.ref w_DEFAULTCAPACITY_EMPTY_ELEMENTDATA)) (O_ : Old Z n0 h0) :
    MetFree l (⟨"java/util/ArrayList", "<init>", "()V"⟩ : MethodName) (head1 (Jvm.Cond.code (⟨"java/util/ArrayList", "<init>", "()V"⟩ : MethodName) jdk_38_method_2_code 1 none :: ws) ({ frames := 3, cells := 0, slots := 0, locals := 36 } : Room)) (fun a U => a = #[(.ref r0)] ∧ Z.Warmed39 U.vm ∧ U.heap = h0) (fun _ _ _ _ _ => True) (fun _ U o U' => ∃ v L, o = .returned v ∧ Q1 Z r0 u_elementData_r0 u_size_r0 u_modCount_r0 w_DEFAULTCAPACITY_EMPTY_ELEMENTDATA h0 n0 v U'.heap L ∧ FrameEnd U o U' L ({ frames := 3, cells := 0, slots := 0, locals := 36 } : Room).cells ({ frames := 3, cells := 0, slots := 0, locals := 36 } : Room).slots) := by
  refine MetFree.of_bodySF (plainFor_of_name pn_2) hisR ?_
  intro p e s m args below meth c s₁ Bd hml0 hP hK
  obtain ⟨rfl, hZ, hh⟩ := hP
  have hx := Bd.exec
  have hby := Bd.bytes
  have hml : c.maxLocals = 1 := hml0
  have hown : s.vm.findClass "java/util/ArrayList" = some m.cls := findClass_of_methodNamed Bd.named
  have hnm := (name_of_methodNamed Bd.named Bd.method).1
  have X0 : Stand p l e ({ frames := 3, cells := 0, slots := 0, locals := 36 } : Room) s m #[(.ref r0)] below meth c s₁ [] 0 0 := Stand.of_body Bd
  have e0 : s₁.heap = h0 := by rw [← hh, Bd.state]; rfl
  have N0 := Fr.nil n0
  have pre0 : ∀ t, Steps p.tables e below (s₁.setTop (mkF m 0 #[.val (.ref r0)] [])) t → Steps p.tables e below (s₁.setTop (entryFrame m #[(.ref r0)] 1)) t := fun t k => castTop (ef_1 m r0) k
  obtain ⟨_, _, ⟨T1, L1, k1, n1⟩, -, X1, ⟨Lc1, hQ1, l1, y1, z1⟩, st1⟩ := X0.specialBack hx (y := (⟨"java/util/AbstractList", "<init>", "()V"⟩ : MethodName)) rfl hown (mvT hZ (hw _ (List.mem_of_getElem? (i := 9) rfl))) (mvT hZ (hw _ (List.mem_of_getElem? (i := 10) rfl))) (mvT hZ (hw _ (List.mem_of_getElem? (i := 14) rfl))) (by decide) (backOf (W := 0) (rm2 l Z a0 hw [] r0 u_elementData_r0 u_size_r0 u_modCount_r0 h0 n0 (Nat.le_trans Z0 (Keep.refl h0 [r0]).1) F_elementData_r0 F_size_r0 E_r0 F_modCount_r0 g_r0) hZ (hw _ (List.mem_of_getElem? (i := 14) rfl)) (hw _ (List.mem_of_getElem? (i := 13) rfl)) (by decide) (by decide)) (g := (mkF m 1 #[.val (.ref r0)] [(.ref r0)])) rfl (by rw [hml]; rfl) (Steps.refl _) (a := r0) (argsL := []) (rest := []) (lenOf pd_0 rfl) rfl (by show 2 * 0 + _ ≤ _; exact Nat.le_of_eq rfl) (hb hby d1_1) (fun _ _ => ⟨rfl, e0, (by decide : 0 + 0 ≤ _), (by decide : 0 + 0 ≤ _)⟩)
  dsimp only [Pt.U, Pt.locs, Pt.cells, Pt.slots] at X1 l1 y1 z1 st1 hQ1
  subst l1 y1 z1
  obtain ⟨rfl, Nq1, Kq1, f1_0, f1_1, f1_2, f1_3⟩ := hQ1
  have K2 : Keep h0 T1.heap [r0] := (Keep.refl h0 [r0]).trans Kq1 (allS (Or.inl (List.mem_of_getElem? (i := 0) rfl)) all0)
  have N1 := Fr.app N0 Nq1
  have f3 := (O_.keep Kq1 (allS g_r0 all0))
  obtain ⟨T4, X4, e4, st4⟩ := getS2 X1 hx hZ hown (host := "") (Or.inl (hw _ (List.mem_of_getElem? (i := 26) rfl))) Via.refl rfl (S_DEFAULTCAPACITY_EMPTY_ELEMENTDATA.ext f3.2) (g := (mkF m 5 #[.val (.ref r0)] [(.ref r0)])) rfl (hb hby d1_5)
  obtain ⟨T5, h5, X5, e5, W5, st5⟩ := putF X4 hx hZ hown (host := "") (Or.inl (hw _ (List.mem_of_getElem? (i := 27) rfl))) Via.refl e4 f1_2 f1_0 (Or.inl (hw _ (List.mem_of_getElem? (i := 28) rfl))) (hw _ (List.mem_of_getElem? (i := 4) rfl)) (ty := (.array (.object "java/lang/Object"))) (by decide) rfl rfl (g := (mkF m 8 #[.val (.ref r0)] [(.ref w_DEFAULTCAPACITY_EMPTY_ELEMENTDATA), (.ref r0)])) rfl rfl (hb hby d1_8)
  have N5 := Fr.snoc X5 N1 g_r0
  have K6 : Keep h0 h5 [r0] := K2.wr W5 (Or.inl (List.mem_of_getElem? (i := 0) rfl))
  have F5 := f1_2.same W5
  have pre7 : ∀ t, Steps p.tables e below (T5.setTop (mkF m 11 #[.val (.ref r0)] [])) t → Steps p.tables e below (s₁.setTop (entryFrame m #[(.ref r0)] 1)) t := by
    intro t k
    refine pre0 _ ?_
    show Steps p.tables e below (s₁.setTop (mkF m 0 #[.val (.ref r0)] [])) _
    refine XS.aloadN X0.here hx rfl (hb hby d1_0) rfl rfl ?_
    show Steps p.tables e below (s₁.setTop (mkF m 1 #[.val (.ref r0)] [(.ref r0)])) _
    refine st1.trans ?_
    show Steps p.tables e below (T1.setTop (mkF m 4 #[.val (.ref r0)] [])) _
    refine XS.aloadN X1.here hx rfl (hb hby d1_4) rfl rfl ?_
    show Steps p.tables e below (T1.setTop (mkF m 5 #[.val (.ref r0)] [(.ref r0)])) _
    refine st4 _ ?_
    show Steps p.tables e below (T4.setTop (mkF m 8 #[.val (.ref r0)] [(.ref w_DEFAULTCAPACITY_EMPTY_ELEMENTDATA), (.ref r0)])) _
    refine st5 _ ?_
    exact k
  have f8 := (f1_0.wr W5)
  have f9 := (f1_1.other W5 (Or.inr (slot_ne (Or.inl (hw _ (List.mem_of_getElem? (i := 25) rfl))) (Or.inl (hw _ (List.mem_of_getElem? (i := 28) rfl))) (by decide) (t := .int) (t' := (.array (.object "java/lang/Object"))) (by decide) (by decide))))
  have f10 := (f1_3.other W5 (Or.inr (slot_ne (Or.inl (hw _ (List.mem_of_getElem? (i := 45) rfl))) (Or.inl (hw _ (List.mem_of_getElem? (i := 28) rfl))) (by decide) (t := .int) (t' := (.array (.object "java/lang/Object"))) (by decide) (by decide))))
  obtain ⟨fs, hr, hrun, hended, hW, hsame⟩ := X5.leave (v := none) (fun _ => rfl)
  refine ⟨_, _, pre7 _ ?_, hrun, hended, _, _, rfl, ?_, ⟨_, rfl⟩, hW, hsame.mono (by decide) (by decide)⟩
  · show Steps p.tables e below (T5.setTop (mkF m 11 #[.val (.ref r0)] [])) _
    exact X5.returnOut hx Bd.returns (hb hby d1_11) hr
  · show Q1 Z r0 u_elementData_r0 u_size_r0 u_modCount_r0 w_DEFAULTCAPACITY_EMPTY_ELEMENTDATA h0 n0 _ T5.heap _
    rw [e5]
    exact ⟨rfl, N5, K6, f8, f9, F5, f10⟩
def Q6 (Z : State) (r0 : Addr) (h0 : Heap) (n0 : Nat) (v : Option Value) (h : Heap) (L : List Loc) : Prop := v = some (.int (0 : Int32)) ∧ Fr n0 L ∧ h = h0
theorem ef_6 (m : MethodId) (x0 : Addr) : entryFrame m #[(.ref x0)] 1 = mkF m 0 #[.val (.ref x0)] [] := by first | (simp [entryFrame, mkF, argsToLocals, Value.category]; done) | rfl
set_option maxRecDepth 65536 in
set_option maxHeartbeats 40000000 in
theorem rm6 (l : Launch) (Z : State) (a0 : Array Value) (hw : ∀ d ∈ tables_1, d.before a0 Z = true) (ws : List Jvm.Cond) (r0 : Addr) (h0 : Heap) (n0 : Nat) (Z0 : n0 ≤ h0.size) (F_size_r0 : Fld Z h0 r0 "java/util/ArrayList" "size" "I" (.int (0 : Int32))) :
    MetFree l (⟨"java/util/ArrayList", "size", "()I"⟩ : MethodName) (head1 (Jvm.Cond.code (⟨"java/util/ArrayList", "size", "()I"⟩ : MethodName) jdk_38_method_8_code 1 (some .int) :: ws) ({ frames := 0, cells := 0, slots := 0, locals := 0 } : Room)) (fun a U => a = #[(.ref r0)] ∧ Z.Warmed39 U.vm ∧ U.heap = h0) (fun _ _ _ _ _ => True) (fun _ U o U' => ∃ v L, o = .returned v ∧ Q6 Z r0 h0 n0 v U'.heap L ∧ FrameEnd U o U' L ({ frames := 0, cells := 0, slots := 0, locals := 0 } : Room).cells ({ frames := 0, cells := 0, slots := 0, locals := 0 } : Room).slots) := by
  refine MetFree.of_bodySF (plainFor_of_name pn_2) hisR ?_
  intro p e s m args below meth c s₁ Bd hml0 hP hK
  obtain ⟨rfl, hZ, hh⟩ := hP
  have hx := Bd.exec
  have hby := Bd.bytes
  have hml : c.maxLocals = 1 := hml0
  have hown : s.vm.findClass "java/util/ArrayList" = some m.cls := findClass_of_methodNamed Bd.named
  have hnm := (name_of_methodNamed Bd.named Bd.method).1
  have X0 : Stand p l e ({ frames := 0, cells := 0, slots := 0, locals := 0 } : Room) s m #[(.ref r0)] below meth c s₁ [] 0 0 := Stand.of_body Bd
  have e0 : s₁.heap = h0 := by rw [← hh, Bd.state]; rfl
  have N0 := Fr.nil n0
  have pre0 : ∀ t, Steps p.tables e below (s₁.setTop (mkF m 0 #[.val (.ref r0)] [])) t → Steps p.tables e below (s₁.setTop (entryFrame m #[(.ref r0)] 1)) t := fun t k => castTop (ef_6 m r0) k
  obtain ⟨T1, X1, e1, st1⟩ := getF X0 hx hZ hown (host := "") (Or.inl (hw _ (List.mem_of_getElem? (i := 44) rfl))) Via.refl e0 F_size_r0 (g := (mkF m 1 #[.val (.ref r0)] [(.ref r0)])) rfl rfl (hb hby d6_1)
  have pre2 : ∀ t, Steps p.tables e below (T1.setTop (mkF m 4 #[.val (.ref r0)] [(.int (0 : Int32))])) t → Steps p.tables e below (s₁.setTop (entryFrame m #[(.ref r0)] 1)) t := by
    intro t k
    refine pre0 _ ?_
    show Steps p.tables e below (s₁.setTop (mkF m 0 #[.val (.ref r0)] [])) _
    refine XS.aloadN X0.here hx rfl (hb hby d6_0) rfl rfl ?_
    show Steps p.tables e below (s₁.setTop (mkF m 1 #[.val (.ref r0)] [(.ref r0)])) _
    refine st1 _ ?_
    exact k
  obtain ⟨fs, hr, hrun, hended, hW, hsame⟩ := X1.leave (v := some (.int (0 : Int32))) (fun h => by rw [Bd.returns] at h; cases h)
  refine ⟨_, _, pre2 _ ?_, hrun, hended, _, _, rfl, ?_, ⟨_, rfl⟩, hW, hsame.mono (by decide) (by decide)⟩
  · show Steps p.tables e below (T1.setTop (mkF m 4 #[.val (.ref r0)] [(.int (0 : Int32))])) _
    exact retI X1 hx Bd.returns (hb hby d6_4) hr
  · show Q6 Z r0 h0 n0 _ T1.heap _
    rw [e1]
    exact ⟨rfl, N0, rfl⟩
def Q8 (Z : State)  (h0 : Heap) (n0 : Nat) (v : Option Value) (h : Heap) (L : List Loc) : Prop := v = some (.int (1 : Int32)) ∧ Fr n0 L ∧ h = h0
theorem ef_8 (m : MethodId)  : entryFrame m #[(.int (1 : Int32)), (.int (0 : Int32))] 2 = mkF m 0 #[.val (.int (1 : Int32)), .val (.int (0 : Int32))] [] := by first | (simp [entryFrame, mkF, argsToLocals, Value.category]; done) | rfl
set_option maxRecDepth 65536 in
set_option maxHeartbeats 40000000 in
theorem rm8 (l : Launch) (Z : State) (a0 : Array Value) (hw : ∀ d ∈ tables_1, d.before a0 Z = true) (ws : List Jvm.Cond)  (h0 : Heap) (n0 : Nat) (Z0 : n0 ≤ h0.size) :
    MetFree l (⟨"java/lang/Math", "max", "(II)I"⟩ : MethodName) (head1 (Jvm.Cond.code (⟨"java/lang/Math", "max", "(II)I"⟩ : MethodName) jdk_29_method_65_code 2 (some .int) :: ws) ({ frames := 0, cells := 0, slots := 0, locals := 0 } : Room)) (fun a U => a = #[(.int (1 : Int32)), (.int (0 : Int32))] ∧ Z.Warmed39 U.vm ∧ U.heap = h0) (fun _ _ _ _ _ => True) (fun _ U o U' => ∃ v L, o = .returned v ∧ Q8 Z  h0 n0 v U'.heap L ∧ FrameEnd U o U' L ({ frames := 0, cells := 0, slots := 0, locals := 0 } : Room).cells ({ frames := 0, cells := 0, slots := 0, locals := 0 } : Room).slots) := by
  refine MetFree.of_bodySF (Jvm.Free.JP.mathPlain rfl (by decide +kernel)) hisR ?_
  intro p e s m args below meth c s₁ Bd hml0 hP hK
  obtain ⟨rfl, hZ, hh⟩ := hP
  have hx := Bd.exec
  have hby := Bd.bytes
  have hml : c.maxLocals = 2 := hml0
  have hown : s.vm.findClass "java/lang/Math" = some m.cls := findClass_of_methodNamed Bd.named
  have hnm := (name_of_methodNamed Bd.named Bd.method).1
  have X0 : Stand p l e ({ frames := 0, cells := 0, slots := 0, locals := 0 } : Room) s m #[(.int (1 : Int32)), (.int (0 : Int32))] below meth c s₁ [] 0 0 := Stand.of_body Bd
  have e0 : s₁.heap = h0 := by rw [← hh, Bd.state]; rfl
  have N0 := Fr.nil n0
  have pre0 : ∀ t, Steps p.tables e below (s₁.setTop (mkF m 0 #[.val (.int (1 : Int32)), .val (.int (0 : Int32))] [])) t → Steps p.tables e below (s₁.setTop (entryFrame m #[(.int (1 : Int32)), (.int (0 : Int32))] 2)) t := fun t k => castTop (ef_8 m ) k
  have pre1 : ∀ t, Steps p.tables e below (s₁.setTop (mkF m 10 #[.val (.int (1 : Int32)), .val (.int (0 : Int32))] [(.int (1 : Int32))])) t → Steps p.tables e below (s₁.setTop (entryFrame m #[(.int (1 : Int32)), (.int (0 : Int32))] 2)) t := by
    intro t k
    refine pre0 _ ?_
    show Steps p.tables e below (s₁.setTop (mkF m 0 #[.val (.int (1 : Int32)), .val (.int (0 : Int32))] [])) _
    refine XS.iloadN X0.here hx rfl (hb hby d8_0) rfl ?_
    show Steps p.tables e below (s₁.setTop (mkF m 1 #[.val (.int (1 : Int32)), .val (.int (0 : Int32))] [(.int (1 : Int32))])) _
    refine XS.iloadN X0.here hx rfl (hb hby d8_1) rfl ?_
    show Steps p.tables e below (s₁.setTop (mkF m 2 #[.val (.int (1 : Int32)), .val (.int (0 : Int32))] [(.int (0 : Int32)), (.int (1 : Int32))])) _
    refine XS.icmpNo X0.here hx rfl (hb hby d8_2) rfl (flt (by decide : ¬ ((1 : Int32) < (0 : Int32)))).1 ?_
    show Steps p.tables e below (s₁.setTop (mkF m 5 #[.val (.int (1 : Int32)), .val (.int (0 : Int32))] [])) _
    refine XS.iloadN X0.here hx rfl (hb hby d8_5) rfl ?_
    show Steps p.tables e below (s₁.setTop (mkF m 6 #[.val (.int (1 : Int32)), .val (.int (0 : Int32))] [(.int (1 : Int32))])) _
    refine XS.goto X0.here hx rfl (pc0 := 6) (pc' := 10) rfl (hb hby d8_6) (by decide) (by decide) ?_
    exact k
  obtain ⟨fs, hr, hrun, hended, hW, hsame⟩ := X0.leave (v := some (.int (1 : Int32))) (fun h => by rw [Bd.returns] at h; cases h)
  refine ⟨_, _, pre1 _ ?_, hrun, hended, _, _, rfl, ?_, ⟨_, rfl⟩, hW, hsame.mono (by decide) (by decide)⟩
  · show Steps p.tables e below (s₁.setTop (mkF m 10 #[.val (.int (1 : Int32)), .val (.int (0 : Int32))] [(.int (1 : Int32))])) _
    exact retI X0 hx Bd.returns (hb hby d8_10) hr
  · show Q8 Z  h0 n0 _ s₁.heap _
    rw [e0]
    exact ⟨rfl, N0, rfl⟩
def Q7 (Z : State)  (h0 : Heap) (n0 : Nat) (v : Option Value) (h : Heap) (L : List Loc) : Prop := v = some (.int (1 : Int32)) ∧ Fr n0 L ∧ h = h0
theorem ef_7 (m : MethodId)  : entryFrame m #[(.int (0 : Int32))] 1 = mkF m 0 #[.val (.int (0 : Int32))] [] := by first | (simp [entryFrame, mkF, argsToLocals, Value.category]; done) | rfl
set_option maxRecDepth 65536 in
set_option maxHeartbeats 40000000 in
theorem rm7 (l : Launch) (Z : State) (a0 : Array Value) (hw : ∀ d ∈ tables_1, d.before a0 Z = true) (ws : List Jvm.Cond)  (h0 : Heap) (n0 : Nat) (Z0 : n0 ≤ h0.size) :
    MetFree l (⟨"com/example/fairmesh/fairmesh/node/AskedChunks", "words", "(I)I"⟩ : MethodName) (head1 (Jvm.Cond.code (⟨"com/example/fairmesh/fairmesh/node/AskedChunks", "words", "(I)I"⟩ : MethodName) prog_18_method_3_code 1 (some .int) :: ws) ({ frames := 1, cells := 0, slots := 0, locals := 13 } : Room)) (fun a U => a = #[(.int (0 : Int32))] ∧ Z.Warmed39 U.vm ∧ U.heap = h0) (fun _ _ _ _ _ => True) (fun _ U o U' => ∃ v L, o = .returned v ∧ Q7 Z  h0 n0 v U'.heap L ∧ FrameEnd U o U' L ({ frames := 1, cells := 0, slots := 0, locals := 13 } : Room).cells ({ frames := 1, cells := 0, slots := 0, locals := 13 } : Room).slots) := by
  refine MetFree.of_bodySF (plainFor_of_name pn_3) hisR ?_
  intro p e s m args below meth c s₁ Bd hml0 hP hK
  obtain ⟨rfl, hZ, hh⟩ := hP
  have hx := Bd.exec
  have hby := Bd.bytes
  have hml : c.maxLocals = 1 := hml0
  have hown : s.vm.findClass "com/example/fairmesh/fairmesh/node/AskedChunks" = some m.cls := findClass_of_methodNamed Bd.named
  have hnm := (name_of_methodNamed Bd.named Bd.method).1
  have X0 : Stand p l e ({ frames := 1, cells := 0, slots := 0, locals := 13 } : Room) s m #[(.int (0 : Int32))] below meth c s₁ [] 0 0 := Stand.of_body Bd
  have e0 : s₁.heap = h0 := by rw [← hh, Bd.state]; rfl
  have N0 := Fr.nil n0
  have pre0 : ∀ t, Steps p.tables e below (s₁.setTop (mkF m 0 #[.val (.int (0 : Int32))] [])) t → Steps p.tables e below (s₁.setTop (entryFrame m #[(.int (0 : Int32))] 1)) t := fun t k => castTop (ef_7 m ) k
  obtain ⟨_, _, ⟨T1, L1, k1, n1⟩, -, X1, ⟨Lc1, hQ1, l1, y1, z1⟩, st1⟩ := Jvm.LawKit.callS X0 hx (y := (⟨"java/lang/Math", "max", "(II)I"⟩ : MethodName)) hown (mvT hZ (hw _ (List.mem_of_getElem? (i := 49) rfl))) (mvT hZ (hw _ (List.mem_of_getElem? (i := 50) rfl))) (mvT hZ (hw _ (List.mem_of_getElem? (i := 51) rfl))) (mvT hZ (hw _ (List.mem_of_getElem? (i := 52) rfl))) (by decide) (backOf (W := 0) (rm8 l Z a0 hw []  h0 n0 (Nat.le_trans Z0 (Keep.refl h0 []).1) ) hZ (hw _ (List.mem_of_getElem? (i := 52) rfl)) (hw _ (List.mem_of_getElem? (i := 51) rfl)) (by decide) (by decide)) (g := (mkF m 10 #[.val (.int (0 : Int32))] [(.int (0 : Int32)), (.int (1 : Int32))])) rfl (by rw [hml]; rfl) (argsL := [(.int (1 : Int32)), (.int (0 : Int32))]) (rest := []) (lenOf pd_2 rfl) rfl (by show 2 * 0 + _ ≤ _; exact Nat.le_of_eq rfl) (hb hby d7_10) (fun _ _ => ⟨rfl, e0, (by decide : 0 + 0 ≤ _), (by decide : 0 + 0 ≤ _)⟩)
  dsimp only [Pt.U, Pt.locs, Pt.cells, Pt.slots] at X1 l1 y1 z1 st1 hQ1
  subst l1 y1 z1
  obtain ⟨rfl, Nq1, e1⟩ := hQ1
  have N1 := Fr.app N0 Nq1
  have pre2 : ∀ t, Steps p.tables e below (T1.setTop (mkF m 13 #[.val (.int (0 : Int32))] [(.int (1 : Int32))])) t → Steps p.tables e below (s₁.setTop (entryFrame m #[(.int (0 : Int32))] 1)) t := by
    intro t k
    refine pre0 _ ?_
    show Steps p.tables e below (s₁.setTop (mkF m 0 #[.val (.int (0 : Int32))] [])) _
    refine XS.iconst X0.here hx rfl (hb hby d7_0) ?_
    show Steps p.tables e below (s₁.setTop (mkF m 1 #[.val (.int (0 : Int32))] [(.int (1 : Int32))])) _
    refine XS.iloadN X0.here hx rfl (hb hby d7_1) rfl ?_
    show Steps p.tables e below (s₁.setTop (mkF m 2 #[.val (.int (0 : Int32))] [(.int (0 : Int32)), (.int (1 : Int32))])) _
    refine XS.bipush X0.here hx rfl (hb hby d7_2) ?_
    show Steps p.tables e below (s₁.setTop (mkF m 4 #[.val (.int (0 : Int32))] [(.int (64 : Int32)), (.int (0 : Int32)), (.int (1 : Int32))])) _
    refine XS.iadd X0.here hx rfl (hb hby d7_4) rfl ?_
    show Steps p.tables e below (s₁.setTop (mkF m 5 #[.val (.int (0 : Int32))] [(.int (64 : Int32)), (.int (1 : Int32))])) _
    refine XS.iconst X0.here hx rfl (hb hby d7_5) ?_
    show Steps p.tables e below (s₁.setTop (mkF m 6 #[.val (.int (0 : Int32))] [(.int (1 : Int32)), (.int (64 : Int32)), (.int (1 : Int32))])) _
    refine XS.isub X0.here hx rfl (hb hby d7_6) rfl ?_
    show Steps p.tables e below (s₁.setTop (mkF m 7 #[.val (.int (0 : Int32))] [(.int (63 : Int32)), (.int (1 : Int32))])) _
    refine XS.bipush X0.here hx rfl (hb hby d7_7) ?_
    show Steps p.tables e below (s₁.setTop (mkF m 9 #[.val (.int (0 : Int32))] [(.int (64 : Int32)), (.int (63 : Int32)), (.int (1 : Int32))])) _
    refine XS.idiv X0.here hx rfl (hb hby d7_9) rfl (by decide) ?_
    show Steps p.tables e below (s₁.setTop (mkF m 10 #[.val (.int (0 : Int32))] [(.int (0 : Int32)), (.int (1 : Int32))])) _
    refine st1 _ ?_
    exact k
  obtain ⟨fs, hr, hrun, hended, hW, hsame⟩ := X1.leave (v := some (.int (1 : Int32))) (fun h => by rw [Bd.returns] at h; cases h)
  refine ⟨_, _, pre2 _ ?_, hrun, hended, _, _, rfl, ?_, ⟨_, rfl⟩, hW, hsame.mono (by decide) (by decide)⟩
  · show Steps p.tables e below (T1.setTop (mkF m 13 #[.val (.int (0 : Int32))] [(.int (1 : Int32))])) _
    exact retI X1 hx Bd.returns (hb hby d7_13) hr
  · show Q7 Z  h0 n0 _ T1.heap _
    rw [e1]
    exact ⟨rfl, N1, rfl⟩
def Q8a (Z : State)  (h0 : Heap) (n0 : Nat) (v : Option Value) (h : Heap) (L : List Loc) : Prop := v = some (.int (2 : Int32)) ∧ Fr n0 L ∧ h = h0
theorem ef_8a (m : MethodId)  : entryFrame m #[(.int (1 : Int32)), (.int (2 : Int32))] 2 = mkF m 0 #[.val (.int (1 : Int32)), .val (.int (2 : Int32))] [] := by first | (simp [entryFrame, mkF, argsToLocals, Value.category]; done) | rfl
set_option maxRecDepth 65536 in
set_option maxHeartbeats 40000000 in
theorem rm8a (l : Launch) (Z : State) (a0 : Array Value) (hw : ∀ d ∈ tables_1, d.before a0 Z = true) (ws : List Jvm.Cond)  (h0 : Heap) (n0 : Nat) (Z0 : n0 ≤ h0.size) :
    MetFree l (⟨"java/lang/Math", "max", "(II)I"⟩ : MethodName) (head1 (Jvm.Cond.code (⟨"java/lang/Math", "max", "(II)I"⟩ : MethodName) jdk_29_method_65_code 2 (some .int) :: ws) ({ frames := 0, cells := 0, slots := 0, locals := 0 } : Room)) (fun a U => a = #[(.int (1 : Int32)), (.int (2 : Int32))] ∧ Z.Warmed39 U.vm ∧ U.heap = h0) (fun _ _ _ _ _ => True) (fun _ U o U' => ∃ v L, o = .returned v ∧ Q8a Z  h0 n0 v U'.heap L ∧ FrameEnd U o U' L ({ frames := 0, cells := 0, slots := 0, locals := 0 } : Room).cells ({ frames := 0, cells := 0, slots := 0, locals := 0 } : Room).slots) := by
  refine MetFree.of_bodySF (Jvm.Free.JP.mathPlain rfl (by decide +kernel)) hisR ?_
  intro p e s m args below meth c s₁ Bd hml0 hP hK
  obtain ⟨rfl, hZ, hh⟩ := hP
  have hx := Bd.exec
  have hby := Bd.bytes
  have hml : c.maxLocals = 2 := hml0
  have hown : s.vm.findClass "java/lang/Math" = some m.cls := findClass_of_methodNamed Bd.named
  have hnm := (name_of_methodNamed Bd.named Bd.method).1
  have X0 : Stand p l e ({ frames := 0, cells := 0, slots := 0, locals := 0 } : Room) s m #[(.int (1 : Int32)), (.int (2 : Int32))] below meth c s₁ [] 0 0 := Stand.of_body Bd
  have e0 : s₁.heap = h0 := by rw [← hh, Bd.state]; rfl
  have N0 := Fr.nil n0
  have pre0 : ∀ t, Steps p.tables e below (s₁.setTop (mkF m 0 #[.val (.int (1 : Int32)), .val (.int (2 : Int32))] [])) t → Steps p.tables e below (s₁.setTop (entryFrame m #[(.int (1 : Int32)), (.int (2 : Int32))] 2)) t := fun t k => castTop (ef_8a m ) k
  have pre1 : ∀ t, Steps p.tables e below (s₁.setTop (mkF m 10 #[.val (.int (1 : Int32)), .val (.int (2 : Int32))] [(.int (2 : Int32))])) t → Steps p.tables e below (s₁.setTop (entryFrame m #[(.int (1 : Int32)), (.int (2 : Int32))] 2)) t := by
    intro t k
    refine pre0 _ ?_
    show Steps p.tables e below (s₁.setTop (mkF m 0 #[.val (.int (1 : Int32)), .val (.int (2 : Int32))] [])) _
    refine XS.iloadN X0.here hx rfl (hb hby d8_0) rfl ?_
    show Steps p.tables e below (s₁.setTop (mkF m 1 #[.val (.int (1 : Int32)), .val (.int (2 : Int32))] [(.int (1 : Int32))])) _
    refine XS.iloadN X0.here hx rfl (hb hby d8_1) rfl ?_
    show Steps p.tables e below (s₁.setTop (mkF m 2 #[.val (.int (1 : Int32)), .val (.int (2 : Int32))] [(.int (2 : Int32)), (.int (1 : Int32))])) _
    refine XS.icmpYes X0.here hx rfl (pc0 := 2) (pc' := 9) rfl (hb hby d8_2) rfl (tlt (by decide : (1 : Int32) < (2 : Int32))).1 (by decide) (by decide) ?_
    show Steps p.tables e below (s₁.setTop (mkF m 9 #[.val (.int (1 : Int32)), .val (.int (2 : Int32))] [])) _
    refine XS.iloadN X0.here hx rfl (hb hby d8_9) rfl ?_
    exact k
  obtain ⟨fs, hr, hrun, hended, hW, hsame⟩ := X0.leave (v := some (.int (2 : Int32))) (fun h => by rw [Bd.returns] at h; cases h)
  refine ⟨_, _, pre1 _ ?_, hrun, hended, _, _, rfl, ?_, ⟨_, rfl⟩, hW, hsame.mono (by decide) (by decide)⟩
  · show Steps p.tables e below (s₁.setTop (mkF m 10 #[.val (.int (1 : Int32)), .val (.int (2 : Int32))] [(.int (2 : Int32))])) _
    exact retI X0 hx Bd.returns (hb hby d8_10) hr
  · show Q8a Z  h0 n0 _ s₁.heap _
    rw [e0]
    exact ⟨rfl, N0, rfl⟩
def Q5 (Z : State) (r0 : Addr) (r1 : Addr) (u_count_r0 : Value) (u_neighbours_r0 : Value) (u_words_r0 : Value) (u_seqs_r0 : Value) (u_bits_r0 : Value) (h0 : Heap) (n0 : Nat) (v : Option Value) (h : Heap) (L : List Loc) : Prop := ∃ (b13 : Addr), ∃ (k13 : ClassId), ∃ (b24 : Addr), ∃ (k24 : ClassId), v = none ∧ Fr n0 L ∧ Keep h0 h [r0] ∧ h0.size ≤ b13 ∧ h0.size ≤ b24 ∧ Exa Z h r0 "com/example/fairmesh/fairmesh/node/AskedChunks" ∧ Fld Z h r0 "com/example/fairmesh/fairmesh/node/AskedChunks" "neighbours" "Ljava/util/List;" (.ref r1) ∧ Fld Z h r0 "com/example/fairmesh/fairmesh/node/AskedChunks" "words" "I" (.int (1 : Int32)) ∧ Arv Z h b13 k13 .long (2 : Int32) [(.long (0 : Int64)), (.long (0 : Int64))] (.long (0 : Int64)) ∧ Fld Z h r0 "com/example/fairmesh/fairmesh/node/AskedChunks" "seqs" "[J" (.ref b13) ∧ Arv Z h b24 k24 .long (2 : Int32) [(.long (0 : Int64)), (.long (0 : Int64))] (.long (0 : Int64)) ∧ Fld Z h r0 "com/example/fairmesh/fairmesh/node/AskedChunks" "bits" "[J" (.ref b24) ∧ Fld Z h r0 "com/example/fairmesh/fairmesh/node/AskedChunks" "count" "I" u_count_r0 ∧ b13 ≠ b24
theorem ef_5 (m : MethodId) (x0 : Addr) (x1 : Addr) : entryFrame m #[(.ref x0), (.ref x1), (.int (2 : Int32))] 3 = mkF m 0 #[.val (.ref x0), .val (.ref x1), .val (.int (2 : Int32))] [] := by first | (simp [entryFrame, mkF, argsToLocals, Value.category]; done) | rfl
set_option maxRecDepth 65536 in
set_option maxHeartbeats 40000000 in
theorem rm5 (l : Launch) (Z : State) (a0 : Array Value) (hw : ∀ d ∈ tables_1, d.before a0 Z = true) (ws : List Jvm.Cond) (r0 : Addr) (r1 : Addr) (u_count_r0 : Value) (u_neighbours_r0 : Value) (u_words_r0 : Value) (u_seqs_r0 : Value) (u_bits_r0 : Value) (h0 : Heap) (n0 : Nat) (Z0 : n0 ≤ h0.size) (F_count_r0 : Fld Z h0 r0 "com/example/fairmesh/fairmesh/node/AskedChunks" "count" "I" u_count_r0) (E_r0 : Exa Z h0 r0 "com/example/fairmesh/fairmesh/node/AskedChunks") (F_neighbours_r0 : Fld Z h0 r0 "com/example/fairmesh/fairmesh/node/AskedChunks" "neighbours" "Ljava/util/List;" u_neighbours_r0) (g_r0 : n0 ≤ r0) (F_size_r1 : Fld Z h0 r1 "java/util/ArrayList" "size" "I" (.int (0 : Int32))) (ne_r1_r0 : r1 ≠ r0) (E_r1 : Exa Z h0 r1 "java/util/ArrayList") (F_words_r0 : Fld Z h0 r0 "com/example/fairmesh/fairmesh/node/AskedChunks" "words" "I" u_words_r0) (F_seqs_r0 : Fld Z h0 r0 "com/example/fairmesh/fairmesh/node/AskedChunks" "seqs" "[J" u_seqs_r0) (F_bits_r0 : Fld Z h0 r0 "com/example/fairmesh/fairmesh/node/AskedChunks" "bits" "[J" u_bits_r0) :
    MetFree l (⟨"com/example/fairmesh/fairmesh/node/AskedChunks", "<init>", "(Ljava/util/List;I)V"⟩ : MethodName) (head1 (Jvm.Cond.code (⟨"com/example/fairmesh/fairmesh/node/AskedChunks", "<init>", "(Ljava/util/List;I)V"⟩ : MethodName) prog_18_method_2_code 3 none :: ws) ({ frames := 2, cells := 2, slots := 4, locals := 26 } : Room)) (fun a U => a = #[(.ref r0), (.ref r1), (.int (2 : Int32))] ∧ Z.Warmed39 U.vm ∧ U.heap = h0) (fun _ _ _ _ _ => True) (fun _ U o U' => ∃ v L, o = .returned v ∧ Q5 Z r0 r1 u_count_r0 u_neighbours_r0 u_words_r0 u_seqs_r0 u_bits_r0 h0 n0 v U'.heap L ∧ FrameEnd U o U' L ({ frames := 2, cells := 2, slots := 4, locals := 26 } : Room).cells ({ frames := 2, cells := 2, slots := 4, locals := 26 } : Room).slots) := by
  refine MetFree.of_bodySF (plainFor_of_name pn_3) hisR ?_
  intro p e s m args below meth c s₁ Bd hml0 hP hK
  obtain ⟨rfl, hZ, hh⟩ := hP
  have hx := Bd.exec
  have hby := Bd.bytes
  have hml : c.maxLocals = 3 := hml0
  have hown : s.vm.findClass "com/example/fairmesh/fairmesh/node/AskedChunks" = some m.cls := findClass_of_methodNamed Bd.named
  have hnm := (name_of_methodNamed Bd.named Bd.method).1
  have X0 : Stand p l e ({ frames := 2, cells := 2, slots := 4, locals := 26 } : Room) s m #[(.ref r0), (.ref r1), (.int (2 : Int32))] below meth c s₁ [] 0 0 := Stand.of_body Bd
  have e0 : s₁.heap = h0 := by rw [← hh, Bd.state]; rfl
  have N0 := Fr.nil n0
  have pre0 : ∀ t, Steps p.tables e below (s₁.setTop (mkF m 0 #[.val (.ref r0), .val (.ref r1), .val (.int (2 : Int32))] [])) t → Steps p.tables e below (s₁.setTop (entryFrame m #[(.ref r0), (.ref r1), (.int (2 : Int32))] 3)) t := fun t k => castTop (ef_5 m r0 r1) k
  obtain ⟨T1, X1, e1, st1⟩ := initO X0 hx hZ hown (hw _ (List.mem_of_getElem? (i := 32) rfl)) (hw _ (List.mem_of_getElem? (i := 22) rfl)) (hw _ (List.mem_of_getElem? (i := 23) rfl)) e0 (g := (mkF m 1 #[.val (.ref r0), .val (.ref r1), .val (.int (2 : Int32))] [(.ref r0)])) rfl (by rw [hml]; rfl) rfl (hb hby d5_1) (by decide) (W := 0) (by show 2 * 0 + _ ≤ _; exact Nat.le_of_eq rfl) (by decide)
  obtain ⟨T2, h2, X2, e2, W2, st2⟩ := putF X1 hx hZ hown (host := "") (Or.inl (hw _ (List.mem_of_getElem? (i := 33) rfl))) Via.refl e1 F_neighbours_r0 E_r0 (Or.inr ⟨(hw _ (List.mem_of_getElem? (i := 34) rfl)), rfl, hnm⟩) (hw _ (List.mem_of_getElem? (i := 1) rfl)) (ty := (.object "java/util/List")) (by decide) rfl rfl (g := (mkF m 6 #[.val (.ref r0), .val (.ref r1), .val (.int (2 : Int32))] [(.ref r1), (.ref r0)])) rfl rfl (hb hby d5_6)
  have N2 := Fr.snoc X2 N0 g_r0
  have K3 : Keep h0 h2 [r0] := (Keep.refl h0 [r0]).wr W2 (Or.inl (List.mem_of_getElem? (i := 0) rfl))
  have F2 := F_neighbours_r0.same W2
  have f4 := (F_size_r1.other W2 (Or.inl ne_r1_r0))
  have f6 := (E_r1.wr W2)
  obtain ⟨cq5, kq5, q5a, q5b, q5c⟩ := isOf hZ e2 f6
  obtain ⟨_, _, ⟨T5, L5, k5, n5⟩, -, X5, ⟨Lc5, hQ5, l5, y5, z5⟩, st5⟩ := X2.interfaceBack hx (xi := (⟨"java/util/List", "size", "()I"⟩ : MethodName)) (y := (⟨"java/util/ArrayList", "size", "()I"⟩ : MethodName)) hown (mvT hZ (hw _ (List.mem_of_getElem? (i := 35) rfl))) (mvT hZ (hw _ (List.mem_of_getElem? (i := 36) rfl))) (mvT hZ (hw _ (List.mem_of_getElem? (i := 37) rfl))) (mvT hZ (hw _ (List.mem_of_getElem? (i := 38) rfl))) (mvT hZ (hw _ (List.mem_of_getElem? (i := 39) rfl))) (mvT hZ (hw _ (List.mem_of_getElem? (i := 40) rfl))) (mvT hZ (hw _ (List.mem_of_getElem? (i := 41) rfl))) (mvT hZ (hw _ (List.mem_of_getElem? (i := 42) rfl))) (by decide) (backOf (W := 1) (rm6 l Z a0 hw [] r1 h2 n0 (Nat.le_trans Z0 K3.1) f4) hZ (hw _ (List.mem_of_getElem? (i := 43) rfl)) (hw _ (List.mem_of_getElem? (i := 5) rfl)) (by decide) (by decide)) q5a q5b q5c (g := (mkF m 11 #[.val (.ref r0), .val (.ref r1), .val (.int (2 : Int32))] [(.ref r1), (.ref r0)])) rfl (by rw [hml]; rfl) (Steps.refl _) (argsL := []) (rest := [(.ref r0)]) (lenOf pd_1 rfl) rfl (by show 2 * 0 + _ ≤ _; exact Nat.le_of_eq rfl) (hb hby d5_11) (fun _ _ => ⟨rfl, e2, (by decide : 0 + 0 ≤ _), (by decide : 0 + 0 ≤ _)⟩)
  dsimp only [Pt.U, Pt.locs, Pt.cells, Pt.slots] at X5 l5 y5 z5 st5 hQ5
  subst l5 y5 z5
  obtain ⟨rfl, Nq5, e5⟩ := hQ5
  have N5 := Fr.app N2 Nq5
  obtain ⟨_, _, ⟨T7, L7, k7, n7⟩, -, X7, ⟨Lc7, hQ7, l7, y7, z7⟩, st7⟩ := Jvm.LawKit.callS X5 hx (y := (⟨"com/example/fairmesh/fairmesh/node/AskedChunks", "words", "(I)I"⟩ : MethodName)) hown (mvT hZ (hw _ (List.mem_of_getElem? (i := 46) rfl))) (mvT hZ (hw _ (List.mem_of_getElem? (i := 47) rfl))) (mvT hZ (hw _ (List.mem_of_getElem? (i := 2) rfl))) (mvT hZ (hw _ (List.mem_of_getElem? (i := 48) rfl))) (by decide) (backOf (W := 1) (rm7 l Z a0 hw []  h2 n0 (Nat.le_trans Z0 K3.1) ) hZ (hw _ (List.mem_of_getElem? (i := 48) rfl)) (hw _ (List.mem_of_getElem? (i := 2) rfl)) (by decide) (by decide)) (g := (mkF m 16 #[.val (.ref r0), .val (.ref r1), .val (.int (2 : Int32))] [(.int (0 : Int32)), (.ref r0)])) rfl (by rw [hml]; rfl) (argsL := [(.int (0 : Int32))]) (rest := [(.ref r0)]) (lenOf pd_3 rfl) rfl (by show 2 * 0 + _ ≤ _; exact Nat.le_of_eq rfl) (hb hby d5_16) (fun _ _ => ⟨rfl, e5, (by decide : 0 + 0 ≤ _), (by decide : 0 + 0 ≤ _)⟩)
  dsimp only [Pt.U, Pt.locs, Pt.cells, Pt.slots] at X7 l7 y7 z7 st7 hQ7
  subst l7 y7 z7
  obtain ⟨rfl, Nq7, e7⟩ := hQ7
  have N7 := Fr.app N5 Nq7
  have f8 := (E_r0.wr W2)
  have f9 := (F_words_r0.other W2 (Or.inr (slot_ne (Or.inr (hw _ (List.mem_of_getElem? (i := 54) rfl))) (Or.inr (hw _ (List.mem_of_getElem? (i := 34) rfl))) (by decide) (t := .int) (t' := (.object "java/util/List")) (by decide) (by decide))))
  obtain ⟨T10, h10, X10, e10, W10, st10⟩ := putF X7 hx hZ hown (host := "") (Or.inl (hw _ (List.mem_of_getElem? (i := 53) rfl))) Via.refl e7 f9 f8 (Or.inr ⟨(hw _ (List.mem_of_getElem? (i := 54) rfl)), rfl, hnm⟩) (hw _ (List.mem_of_getElem? (i := 1) rfl)) (ty := .int) (by decide) rfl rfl (g := (mkF m 19 #[.val (.ref r0), .val (.ref r1), .val (.int (2 : Int32))] [(.int (1 : Int32)), (.ref r0)])) rfl rfl (hb hby d5_19)
  have N10 := Fr.snoc X10 N7 g_r0
  have K11 : Keep h0 h10 [r0] := K3.wr W10 (Or.inl (List.mem_of_getElem? (i := 0) rfl))
  have F10 := f9.same W10
  obtain ⟨_, _, ⟨T12, L12, k12, n12⟩, -, X12, ⟨Lc12, hQ12, l12, y12, z12⟩, st12⟩ := Jvm.LawKit.callS X10 hx (y := (⟨"java/lang/Math", "max", "(II)I"⟩ : MethodName)) hown (mvT hZ (hw _ (List.mem_of_getElem? (i := 49) rfl))) (mvT hZ (hw _ (List.mem_of_getElem? (i := 50) rfl))) (mvT hZ (hw _ (List.mem_of_getElem? (i := 51) rfl))) (mvT hZ (hw _ (List.mem_of_getElem? (i := 52) rfl))) (by decide) (backOf (W := 1) (rm8a l Z a0 hw []  h10 n0 (Nat.le_trans Z0 K11.1) ) hZ (hw _ (List.mem_of_getElem? (i := 52) rfl)) (hw _ (List.mem_of_getElem? (i := 51) rfl)) (by decide) (by decide)) (g := (mkF m 25 #[.val (.ref r0), .val (.ref r1), .val (.int (2 : Int32))] [(.int (2 : Int32)), (.int (1 : Int32)), (.ref r0)])) rfl (by rw [hml]; rfl) (argsL := [(.int (1 : Int32)), (.int (2 : Int32))]) (rest := [(.ref r0)]) (lenOf pd_2 rfl) rfl (by show 2 * 0 + _ ≤ _; exact Nat.le_of_eq rfl) (hb hby d5_25) (fun _ _ => ⟨rfl, e10, (by decide : 0 + 0 ≤ _), (by decide : 0 + 0 ≤ _)⟩)
  dsimp only [Pt.U, Pt.locs, Pt.cells, Pt.slots] at X12 l12 y12 z12 st12 hQ12
  subst l12 y12 z12
  obtain ⟨rfl, Nq12, e12⟩ := hQ12
  have N12 := Fr.app N10 Nq12
  obtain ⟨T13, h13, k13, X13, e13, E13, A13, st13⟩ := newP X12 hx hZ (hw _ (List.mem_of_getElem? (i := 55) rfl)) e12 (g := (mkF m 28 #[.val (.ref r0), .val (.ref r1), .val (.int (2 : Int32))] [(.int (2 : Int32)), (.ref r0)])) rfl (hb hby d5_28) rfl (by decide) (cap := 2) (by decide) (by decide) (by decide) (by decide)
  obtain ⟨b13, g13⟩ : ∃ z, z = h10.size := ⟨_, rfl⟩
  rw [← g13] at A13 st13
  have sz_b13 : h0.size ≤ b13 := Nat.le_trans K11.1 (Nat.le_of_eq g13.symm)
  have K14 : Keep h0 h13 [r0] := K11.ext E13
  have V13 : Arv Z h13 b13 k13 .long (2 : Int32) [(.long (0 : Int64)), (.long (0 : Int64))] (.long (0 : Int64)) := (Arv.new A13 (by decide)).pad (pad_rep [] (.long (0 : Int64)) 2)
  have f15 := ((f8.wr W10).ext E13)
  have f16 := (((F_seqs_r0.other W2 (Or.inr (slot_ne (Or.inl (hw _ (List.mem_of_getElem? (i := 57) rfl))) (Or.inr (hw _ (List.mem_of_getElem? (i := 34) rfl))) (by decide) (t := (.array .long)) (t' := (.object "java/util/List")) (by decide) (by decide)))).other W10 (Or.inr (slot_ne (Or.inl (hw _ (List.mem_of_getElem? (i := 57) rfl))) (Or.inr (hw _ (List.mem_of_getElem? (i := 54) rfl))) (by decide) (t := (.array .long)) (t' := .int) (by decide) (by decide)))).ext E13)
  obtain ⟨T17, h17, X17, e17, W17, st17⟩ := putF X13 hx hZ hown (host := "") (Or.inl (hw _ (List.mem_of_getElem? (i := 56) rfl))) Via.refl e13 f16 f15 (Or.inl (hw _ (List.mem_of_getElem? (i := 57) rfl))) (hw _ (List.mem_of_getElem? (i := 1) rfl)) (ty := (.array .long)) (by decide) rfl rfl (g := (mkF m 30 #[.val (.ref r0), .val (.ref r1), .val (.int (2 : Int32))] [(.ref b13), (.ref r0)])) rfl rfl (hb hby d5_30)
  have N17 := Fr.snoc X17 N12 g_r0
  have K18 : Keep h0 h17 [r0] := K14.wr W17 (Or.inl (List.mem_of_getElem? (i := 0) rfl))
  have F17 := f16.same W17
  obtain ⟨T19, X19, e19, st19⟩ := getF X17 hx hZ hown (host := "") (Or.inl (hw _ (List.mem_of_getElem? (i := 56) rfl))) Via.refl e17 F17 (g := (mkF m 35 #[.val (.ref r0), .val (.ref r1), .val (.int (2 : Int32))] [(.ref r0), (.ref r0)])) rfl rfl (hb hby d5_35)
  have f20 := (V13.other W17 (Ne.symm (Nat.ne_of_lt (Nat.lt_of_lt_of_le F_count_r0.lt (Nat.le_trans (Nat.le_trans (Keep.of_wr W2).1 (Keep.of_wr W10).1) (Nat.le_of_eq g13.symm))))))
  obtain ⟨cl21, Ar21, -, Sz21, Nn21, -, -⟩ := id f20
  have f22 := ((F10.ext E13).other W17 (Or.inr (slot_ne (Or.inr (hw _ (List.mem_of_getElem? (i := 54) rfl))) (Or.inl (hw _ (List.mem_of_getElem? (i := 57) rfl))) (by decide) (t := .int) (t' := (.array .long)) (by decide) (by decide))))
  obtain ⟨T23, X23, e23, st23⟩ := getF X19 hx hZ hown (host := "") (Or.inl (hw _ (List.mem_of_getElem? (i := 53) rfl))) Via.refl e19 f22 (g := (mkF m 40 #[.val (.ref r0), .val (.ref r1), .val (.int (2 : Int32))] [(.ref r0), (.int (2 : Int32)), (.ref r0)])) rfl rfl (hb hby d5_40)
  obtain ⟨T24, h24, k24, X24, e24, E24, A24, st24⟩ := newP X23 hx hZ (hw _ (List.mem_of_getElem? (i := 55) rfl)) e23 (g := (mkF m 44 #[.val (.ref r0), .val (.ref r1), .val (.int (2 : Int32))] [(.int (2 : Int32)), (.ref r0)])) rfl (hb hby d5_44) rfl (by decide) (cap := 2) (by decide) (by decide) (by decide) (by decide)
  obtain ⟨b24, g24⟩ : ∃ z, z = h17.size := ⟨_, rfl⟩
  rw [← g24] at A24 st24
  have sz_b24 : h0.size ≤ b24 := Nat.le_trans K18.1 (Nat.le_of_eq g24.symm)
  have K25 : Keep h0 h24 [r0] := K18.ext E24
  have V24 : Arv Z h24 b24 k24 .long (2 : Int32) [(.long (0 : Int64)), (.long (0 : Int64))] (.long (0 : Int64)) := (Arv.new A24 (by decide)).pad (pad_rep [] (.long (0 : Int64)) 2)
  have f26 := ((f15.wr W17).ext E24)
  have f27 := (((((F_bits_r0.other W2 (Or.inr (slot_ne (Or.inl (hw _ (List.mem_of_getElem? (i := 59) rfl))) (Or.inr (hw _ (List.mem_of_getElem? (i := 34) rfl))) (by decide) (t := (.array .long)) (t' := (.object "java/util/List")) (by decide) (by decide)))).other W10 (Or.inr (slot_ne (Or.inl (hw _ (List.mem_of_getElem? (i := 59) rfl))) (Or.inr (hw _ (List.mem_of_getElem? (i := 54) rfl))) (by decide) (t := (.array .long)) (t' := .int) (by decide) (by decide)))).ext E13).other W17 (Or.inr (slot_ne (Or.inl (hw _ (List.mem_of_getElem? (i := 59) rfl))) (Or.inl (hw _ (List.mem_of_getElem? (i := 57) rfl))) (by decide) (t := (.array .long)) (t' := (.array .long)) (by decide) (by decide)))).ext E24)
  obtain ⟨T28, h28, X28, e28, W28, st28⟩ := putF X24 hx hZ hown (host := "") (Or.inl (hw _ (List.mem_of_getElem? (i := 58) rfl))) Via.refl e24 f27 f26 (Or.inl (hw _ (List.mem_of_getElem? (i := 59) rfl))) (hw _ (List.mem_of_getElem? (i := 1) rfl)) (ty := (.array .long)) (by decide) rfl rfl (g := (mkF m 46 #[.val (.ref r0), .val (.ref r1), .val (.int (2 : Int32))] [(.ref b24), (.ref r0)])) rfl rfl (hb hby d5_46)
  have N28 := Fr.snoc X28 N17 g_r0
  have K29 : Keep h0 h28 [r0] := K25.wr W28 (Or.inl (List.mem_of_getElem? (i := 0) rfl))
  have F28 := f27.same W28
  have pre30 : ∀ t, Steps p.tables e below (T28.setTop (mkF m 49 #[.val (.ref r0), .val (.ref r1), .val (.int (2 : Int32))] [])) t → Steps p.tables e below (s₁.setTop (entryFrame m #[(.ref r0), (.ref r1), (.int (2 : Int32))] 3)) t := by
    intro t k
    refine pre0 _ ?_
    show Steps p.tables e below (s₁.setTop (mkF m 0 #[.val (.ref r0), .val (.ref r1), .val (.int (2 : Int32))] [])) _
    refine XS.aloadN X0.here hx rfl (hb hby d5_0) rfl rfl ?_
    show Steps p.tables e below (s₁.setTop (mkF m 1 #[.val (.ref r0), .val (.ref r1), .val (.int (2 : Int32))] [(.ref r0)])) _
    refine st1 _ ?_
    show Steps p.tables e below (T1.setTop (mkF m 4 #[.val (.ref r0), .val (.ref r1), .val (.int (2 : Int32))] [])) _
    refine XS.aloadN X1.here hx rfl (hb hby d5_4) rfl rfl ?_
    show Steps p.tables e below (T1.setTop (mkF m 5 #[.val (.ref r0), .val (.ref r1), .val (.int (2 : Int32))] [(.ref r0)])) _
    refine XS.aloadN X1.here hx rfl (hb hby d5_5) rfl rfl ?_
    show Steps p.tables e below (T1.setTop (mkF m 6 #[.val (.ref r0), .val (.ref r1), .val (.int (2 : Int32))] [(.ref r1), (.ref r0)])) _
    refine st2 _ ?_
    show Steps p.tables e below (T2.setTop (mkF m 9 #[.val (.ref r0), .val (.ref r1), .val (.int (2 : Int32))] [])) _
    refine XS.aloadN X2.here hx rfl (hb hby d5_9) rfl rfl ?_
    show Steps p.tables e below (T2.setTop (mkF m 10 #[.val (.ref r0), .val (.ref r1), .val (.int (2 : Int32))] [(.ref r0)])) _
    refine XS.aloadN X2.here hx rfl (hb hby d5_10) rfl rfl ?_
    show Steps p.tables e below (T2.setTop (mkF m 11 #[.val (.ref r0), .val (.ref r1), .val (.int (2 : Int32))] [(.ref r1), (.ref r0)])) _
    refine st5.trans ?_
    show Steps p.tables e below (T5.setTop (mkF m 16 #[.val (.ref r0), .val (.ref r1), .val (.int (2 : Int32))] [(.int (0 : Int32)), (.ref r0)])) _
    refine st7 _ ?_
    show Steps p.tables e below (T7.setTop (mkF m 19 #[.val (.ref r0), .val (.ref r1), .val (.int (2 : Int32))] [(.int (1 : Int32)), (.ref r0)])) _
    refine st10 _ ?_
    show Steps p.tables e below (T10.setTop (mkF m 22 #[.val (.ref r0), .val (.ref r1), .val (.int (2 : Int32))] [])) _
    refine XS.aloadN X10.here hx rfl (hb hby d5_22) rfl rfl ?_
    show Steps p.tables e below (T10.setTop (mkF m 23 #[.val (.ref r0), .val (.ref r1), .val (.int (2 : Int32))] [(.ref r0)])) _
    refine XS.iconst X10.here hx rfl (hb hby d5_23) ?_
    show Steps p.tables e below (T10.setTop (mkF m 24 #[.val (.ref r0), .val (.ref r1), .val (.int (2 : Int32))] [(.int (1 : Int32)), (.ref r0)])) _
    refine XS.iloadN X10.here hx rfl (hb hby d5_24) rfl ?_
    show Steps p.tables e below (T10.setTop (mkF m 25 #[.val (.ref r0), .val (.ref r1), .val (.int (2 : Int32))] [(.int (2 : Int32)), (.int (1 : Int32)), (.ref r0)])) _
    refine st12 _ ?_
    show Steps p.tables e below (T12.setTop (mkF m 28 #[.val (.ref r0), .val (.ref r1), .val (.int (2 : Int32))] [(.int (2 : Int32)), (.ref r0)])) _
    refine st13 _ ?_
    show Steps p.tables e below (T13.setTop (mkF m 30 #[.val (.ref r0), .val (.ref r1), .val (.int (2 : Int32))] [(.ref b13), (.ref r0)])) _
    refine st17 _ ?_
    show Steps p.tables e below (T17.setTop (mkF m 33 #[.val (.ref r0), .val (.ref r1), .val (.int (2 : Int32))] [])) _
    refine XS.aloadN X17.here hx rfl (hb hby d5_33) rfl rfl ?_
    show Steps p.tables e below (T17.setTop (mkF m 34 #[.val (.ref r0), .val (.ref r1), .val (.int (2 : Int32))] [(.ref r0)])) _
    refine XS.aloadN X17.here hx rfl (hb hby d5_34) rfl rfl ?_
    show Steps p.tables e below (T17.setTop (mkF m 35 #[.val (.ref r0), .val (.ref r1), .val (.int (2 : Int32))] [(.ref r0), (.ref r0)])) _
    refine st19 _ ?_
    show Steps p.tables e below (T19.setTop (mkF m 38 #[.val (.ref r0), .val (.ref r1), .val (.int (2 : Int32))] [(.ref b13), (.ref r0)])) _
    refine X19.arraylength hx (by rw [e19]; exact Ar21.1) (State.isArrayOf_alike hZ.alike Ar21.2.1) (g := (mkF m 38 #[.val (.ref r0), .val (.ref r1), .val (.int (2 : Int32))] [(.ref b13), (.ref r0)])) rfl rfl (hb hby d5_38) _ ?_
    rw [len_of Sz21 Nn21]
    show Steps p.tables e below (T19.setTop (mkF m 39 #[.val (.ref r0), .val (.ref r1), .val (.int (2 : Int32))] [(.int (2 : Int32)), (.ref r0)])) _
    refine XS.aloadN X19.here hx rfl (hb hby d5_39) rfl rfl ?_
    show Steps p.tables e below (T19.setTop (mkF m 40 #[.val (.ref r0), .val (.ref r1), .val (.int (2 : Int32))] [(.ref r0), (.int (2 : Int32)), (.ref r0)])) _
    refine st23 _ ?_
    show Steps p.tables e below (T23.setTop (mkF m 43 #[.val (.ref r0), .val (.ref r1), .val (.int (2 : Int32))] [(.int (1 : Int32)), (.int (2 : Int32)), (.ref r0)])) _
    refine XS.imul X23.here hx rfl (hb hby d5_43) rfl ?_
    show Steps p.tables e below (T23.setTop (mkF m 44 #[.val (.ref r0), .val (.ref r1), .val (.int (2 : Int32))] [(.int (2 : Int32)), (.ref r0)])) _
    refine st24 _ ?_
    show Steps p.tables e below (T24.setTop (mkF m 46 #[.val (.ref r0), .val (.ref r1), .val (.int (2 : Int32))] [(.ref b24), (.ref r0)])) _
    refine st28 _ ?_
    exact k
  have f31 := (f26.wr W28)
  have f32 := (((((F2.other W10 (Or.inr (slot_ne (Or.inr (hw _ (List.mem_of_getElem? (i := 34) rfl))) (Or.inr (hw _ (List.mem_of_getElem? (i := 54) rfl))) (by decide) (t := (.object "java/util/List")) (t' := .int) (by decide) (by decide)))).ext E13).other W17 (Or.inr (slot_ne (Or.inr (hw _ (List.mem_of_getElem? (i := 34) rfl))) (Or.inl (hw _ (List.mem_of_getElem? (i := 57) rfl))) (by decide) (t := (.object "java/util/List")) (t' := (.array .long)) (by decide) (by decide)))).ext E24).other W28 (Or.inr (slot_ne (Or.inr (hw _ (List.mem_of_getElem? (i := 34) rfl))) (Or.inl (hw _ (List.mem_of_getElem? (i := 59) rfl))) (by decide) (t := (.object "java/util/List")) (t' := (.array .long)) (by decide) (by decide))))
  have f33 := ((f22.ext E24).other W28 (Or.inr (slot_ne (Or.inr (hw _ (List.mem_of_getElem? (i := 54) rfl))) (Or.inl (hw _ (List.mem_of_getElem? (i := 59) rfl))) (by decide) (t := .int) (t' := (.array .long)) (by decide) (by decide))))
  have f34 := ((f20.ext E24).other W28 (Ne.symm (Nat.ne_of_lt (Nat.lt_of_lt_of_le F_count_r0.lt (Nat.le_trans (Nat.le_trans (Keep.of_wr W2).1 (Keep.of_wr W10).1) (Nat.le_of_eq g13.symm))))))
  have f35 := ((F17.ext E24).other W28 (Or.inr (slot_ne (Or.inl (hw _ (List.mem_of_getElem? (i := 57) rfl))) (Or.inl (hw _ (List.mem_of_getElem? (i := 59) rfl))) (by decide) (t := (.array .long)) (t' := (.array .long)) (by decide) (by decide))))
  have f36 := (V24.other W28 (Ne.symm (Nat.ne_of_lt (Nat.lt_of_lt_of_le F_count_r0.lt (Nat.le_trans (Nat.le_trans (Nat.le_trans (Nat.le_trans (Keep.of_wr W2).1 (Keep.of_wr W10).1) E13.1) (Keep.of_wr W17).1) (Nat.le_of_eq g24.symm))))))
  have f37 := ((((((F_count_r0.other W2 (Or.inr (slot_ne (Or.inl (hw _ (List.mem_of_getElem? (i := 80) rfl))) (Or.inr (hw _ (List.mem_of_getElem? (i := 34) rfl))) (by decide) (t := .int) (t' := (.object "java/util/List")) (by decide) (by decide)))).other W10 (Or.inr (slot_ne (Or.inl (hw _ (List.mem_of_getElem? (i := 80) rfl))) (Or.inr (hw _ (List.mem_of_getElem? (i := 54) rfl))) (by decide) (t := .int) (t' := .int) (by decide) (by decide)))).ext E13).other W17 (Or.inr (slot_ne (Or.inl (hw _ (List.mem_of_getElem? (i := 80) rfl))) (Or.inl (hw _ (List.mem_of_getElem? (i := 57) rfl))) (by decide) (t := .int) (t' := (.array .long)) (by decide) (by decide)))).ext E24).other W28 (Or.inr (slot_ne (Or.inl (hw _ (List.mem_of_getElem? (i := 80) rfl))) (Or.inl (hw _ (List.mem_of_getElem? (i := 59) rfl))) (by decide) (t := .int) (t' := (.array .long)) (by decide) (by decide))))
  obtain ⟨fs, hr, hrun, hended, hW, hsame⟩ := X28.leave (v := none) (fun _ => rfl)
  refine ⟨_, _, pre30 _ ?_, hrun, hended, _, _, rfl, ?_, ⟨_, rfl⟩, hW, hsame.mono (by decide) (by decide)⟩
  · show Steps p.tables e below (T28.setTop (mkF m 49 #[.val (.ref r0), .val (.ref r1), .val (.int (2 : Int32))] [])) _
    exact X28.returnOut hx Bd.returns (hb hby d5_49) hr
  · show Q5 Z r0 r1 u_count_r0 u_neighbours_r0 u_words_r0 u_seqs_r0 u_bits_r0 h0 n0 _ T28.heap _
    rw [e28]
    exact ⟨b13, k13, b24, k24, rfl, N28, K29, sz_b13, sz_b24, f31, f32, f33, f34, f35, f36, F28, f37, (Nat.ne_of_lt (Nat.lt_of_lt_of_le V13.lt (Nat.le_trans (Keep.of_wr W17).1 (Nat.le_of_eq g24.symm))))⟩
def own_v9_w_bits_r0_0 (i1 : Int32) (i2 : Int32) (w_words_r0 : Int32) (e0_w_bits_r0 : Int64) : Int64 := (if ((i1 * w_words_r0) + (i2 / (64 : Int32))) = (0 : Int32) then (e0_w_bits_r0 ||| ((1 : Int64) <<< (i2 &&& 0x3f).toInt64)) else e0_w_bits_r0)
def own_v9_w_bits_r0_1 (i1 : Int32) (i2 : Int32) (w_words_r0 : Int32) (e1_w_bits_r0 : Int64) : Int64 := (if ((i1 * w_words_r0) + (i2 / (64 : Int32))) = (0 : Int32) then e1_w_bits_r0 else (e1_w_bits_r0 ||| ((1 : Int64) <<< (i2 &&& 0x3f).toInt64)))
def Q9 (Z : State) (r0 : Addr) (i1 : Int32) (i2 : Int32) (w_bits_r0 : Addr) (w_words_r0 : Int32) (e0_w_bits_r0 : Int64) (e1_w_bits_r0 : Int64) (k_w_bits_r0 : ClassId) (h0 : Heap) (n0 : Nat) (v : Option Value) (h : Heap) (L : List Loc) : Prop := v = none ∧ Fr n0 L ∧ Keep h0 h [w_bits_r0] ∧ Arv Z h w_bits_r0 k_w_bits_r0 .long (2 : Int32) [(.long (own_v9_w_bits_r0_0 i1 i2 w_words_r0 e0_w_bits_r0)), (.long (own_v9_w_bits_r0_1 i1 i2 w_words_r0 e1_w_bits_r0))] (.long (0 : Int64))
theorem ef_9 (m : MethodId) (x0 : Addr) (x1 : Int32) (x2 : Int32) : entryFrame m #[(.ref x0), (.int x1), (.int x2)] 3 = mkF m 0 #[.val (.ref x0), .val (.int x1), .val (.int x2)] [] := by first | (simp [entryFrame, mkF, argsToLocals, Value.category]; done) | rfl
set_option maxRecDepth 65536 in
set_option maxHeartbeats 40000000 in
theorem rm9 (l : Launch) (Z : State) (a0 : Array Value) (hw : ∀ d ∈ tables_1, d.before a0 Z = true) (ws : List Jvm.Cond) (r0 : Addr) (i1 : Int32) (i2 : Int32) (w_bits_r0 : Addr) (w_words_r0 : Int32) (e0_w_bits_r0 : Int64) (e1_w_bits_r0 : Int64) (k_w_bits_r0 : ClassId) (h0 : Heap) (n0 : Nat) (Z0 : n0 ≤ h0.size) (F_bits_r0 : Fld Z h0 r0 "com/example/fairmesh/fairmesh/node/AskedChunks" "bits" "[J" (.ref w_bits_r0)) (F_words_r0 : Fld Z h0 r0 "com/example/fairmesh/fairmesh/node/AskedChunks" "words" "I" (.int w_words_r0)) (hidx : ((i1 * w_words_r0) + (i2 / (64 : Int32))) = (0 : Int32) ∨ ((i1 * w_words_r0) + (i2 / (64 : Int32))) = (1 : Int32)) (V_w_bits_r0 : Arv Z h0 w_bits_r0 k_w_bits_r0 .long (2 : Int32) [(.long e0_w_bits_r0), (.long e1_w_bits_r0)] (.long (0 : Int64))) (g_w_bits_r0 : n0 ≤ w_bits_r0) :
    MetFree l (⟨"com/example/fairmesh/fairmesh/node/AskedChunks", "ask", "(II)V"⟩ : MethodName) (head1 (Jvm.Cond.code (⟨"com/example/fairmesh/fairmesh/node/AskedChunks", "ask", "(II)V"⟩ : MethodName) prog_18_method_7_code 3 none :: ws) ({ frames := 0, cells := 0, slots := 0, locals := 0 } : Room)) (fun a U => a = #[(.ref r0), (.int i1), (.int i2)] ∧ Z.Warmed39 U.vm ∧ U.heap = h0) (fun _ _ _ _ _ => True) (fun _ U o U' => ∃ v L, o = .returned v ∧ Q9 Z r0 i1 i2 w_bits_r0 w_words_r0 e0_w_bits_r0 e1_w_bits_r0 k_w_bits_r0 h0 n0 v U'.heap L ∧ FrameEnd U o U' L ({ frames := 0, cells := 0, slots := 0, locals := 0 } : Room).cells ({ frames := 0, cells := 0, slots := 0, locals := 0 } : Room).slots) := by
  refine MetFree.of_bodySF (plainFor_of_name pn_3) hisR ?_
  intro p e s m args below meth c s₁ Bd hml0 hP hK
  obtain ⟨rfl, hZ, hh⟩ := hP
  have hx := Bd.exec
  have hby := Bd.bytes
  have hml : c.maxLocals = 3 := hml0
  have hown : s.vm.findClass "com/example/fairmesh/fairmesh/node/AskedChunks" = some m.cls := findClass_of_methodNamed Bd.named
  have hnm := (name_of_methodNamed Bd.named Bd.method).1
  have X0 : Stand p l e ({ frames := 0, cells := 0, slots := 0, locals := 0 } : Room) s m #[(.ref r0), (.int i1), (.int i2)] below meth c s₁ [] 0 0 := Stand.of_body Bd
  have e0 : s₁.heap = h0 := by rw [← hh, Bd.state]; rfl
  have N0 := Fr.nil n0
  have pre0 : ∀ t, Steps p.tables e below (s₁.setTop (mkF m 0 #[.val (.ref r0), .val (.int i1), .val (.int i2)] [])) t → Steps p.tables e below (s₁.setTop (entryFrame m #[(.ref r0), (.int i1), (.int i2)] 3)) t := fun t k => castTop (ef_9 m r0 i1 i2) k
  obtain ⟨T1, X1, e1, st1⟩ := getF X0 hx hZ hown (host := "") (Or.inl (hw _ (List.mem_of_getElem? (i := 58) rfl))) Via.refl e0 F_bits_r0 (g := (mkF m 1 #[.val (.ref r0), .val (.int i1), .val (.int i2)] [(.ref r0)])) rfl rfl (hb hby d9_1)
  obtain ⟨T2, X2, e2, st2⟩ := getF X1 hx hZ hown (host := "") (Or.inl (hw _ (List.mem_of_getElem? (i := 53) rfl))) Via.refl e1 F_words_r0 (g := (mkF m 6 #[.val (.ref r0), .val (.int i1), .val (.int i2)] [(.ref r0), (.int i1), (.ref w_bits_r0)])) rfl rfl (hb hby d9_6)
  have pre3 : ∀ t, Steps p.tables e below (T2.setTop (mkF m 15 #[.val (.ref r0), .val (.int i1), .val (.int i2)] [(.int ((i1 * w_words_r0) + (i2 / (64 : Int32)))), (.ref w_bits_r0)])) t → Steps p.tables e below (s₁.setTop (entryFrame m #[(.ref r0), (.int i1), (.int i2)] 3)) t := by
    intro t k
    refine pre0 _ ?_
    show Steps p.tables e below (s₁.setTop (mkF m 0 #[.val (.ref r0), .val (.int i1), .val (.int i2)] [])) _
    refine XS.aloadN X0.here hx rfl (hb hby d9_0) rfl rfl ?_
    show Steps p.tables e below (s₁.setTop (mkF m 1 #[.val (.ref r0), .val (.int i1), .val (.int i2)] [(.ref r0)])) _
    refine st1 _ ?_
    show Steps p.tables e below (T1.setTop (mkF m 4 #[.val (.ref r0), .val (.int i1), .val (.int i2)] [(.ref w_bits_r0)])) _
    refine XS.iloadN X1.here hx rfl (hb hby d9_4) rfl ?_
    show Steps p.tables e below (T1.setTop (mkF m 5 #[.val (.ref r0), .val (.int i1), .val (.int i2)] [(.int i1), (.ref w_bits_r0)])) _
    refine XS.aloadN X1.here hx rfl (hb hby d9_5) rfl rfl ?_
    show Steps p.tables e below (T1.setTop (mkF m 6 #[.val (.ref r0), .val (.int i1), .val (.int i2)] [(.ref r0), (.int i1), (.ref w_bits_r0)])) _
    refine st2 _ ?_
    show Steps p.tables e below (T2.setTop (mkF m 9 #[.val (.ref r0), .val (.int i1), .val (.int i2)] [(.int w_words_r0), (.int i1), (.ref w_bits_r0)])) _
    refine XS.imul X2.here hx rfl (hb hby d9_9) rfl ?_
    show Steps p.tables e below (T2.setTop (mkF m 10 #[.val (.ref r0), .val (.int i1), .val (.int i2)] [(.int (i1 * w_words_r0)), (.ref w_bits_r0)])) _
    refine XS.iloadN X2.here hx rfl (hb hby d9_10) rfl ?_
    show Steps p.tables e below (T2.setTop (mkF m 11 #[.val (.ref r0), .val (.int i1), .val (.int i2)] [(.int i2), (.int (i1 * w_words_r0)), (.ref w_bits_r0)])) _
    refine XS.bipush X2.here hx rfl (hb hby d9_11) ?_
    show Steps p.tables e below (T2.setTop (mkF m 13 #[.val (.ref r0), .val (.int i1), .val (.int i2)] [(.int (64 : Int32)), (.int i2), (.int (i1 * w_words_r0)), (.ref w_bits_r0)])) _
    refine XS.idiv X2.here hx rfl (hb hby d9_13) rfl (by decide) ?_
    show Steps p.tables e below (T2.setTop (mkF m 14 #[.val (.ref r0), .val (.int i1), .val (.int i2)] [(.int (i2 / (64 : Int32))), (.int (i1 * w_words_r0)), (.ref w_bits_r0)])) _
    refine XS.iadd X2.here hx rfl (hb hby d9_14) rfl ?_
    exact k
  rcases (hidx : ((i1 * w_words_r0) + (i2 / (64 : Int32))) = (0 : Int32) ∨ ((i1 * w_words_r0) + (i2 / (64 : Int32))) = (1 : Int32)) with hk4 | hk4
  · have pre5 : ∀ t, Steps p.tables e below (T2.setTop (mkF m 15 #[.val (.ref r0), .val (.int i1), .val (.int i2)] [(.int (0 : Int32)), (.ref w_bits_r0)])) t → Steps p.tables e below (s₁.setTop (entryFrame m #[(.ref r0), (.int i1), (.int i2)] 3)) t := fun t k => pre3 t (by rw [hk4]; exact k)
    obtain ⟨cl6, Ar6, Cq6, Sz6, Nn6, Hh6, Gg6⟩ := id V_w_bits_r0
    have hin6 : ¬ ((0 : Int32) < 0 ∨ cl6.slots.size ≤ ((0 : Int32)).toNatClampNeg) := inb_of Sz6 ⟨by decide, by decide⟩
    have hat6 : cl6.slots[((0 : Int32)).toNatClampNeg]? = some (.long e0_w_bits_r0) := Hh6.at hin6 rfl
    obtain ⟨cl7, Ar7, Cq7, Sz7, Nn7, Hh7, Gg7⟩ := id V_w_bits_r0
    have hin7 : ¬ ((0 : Int32) < 0 ∨ cl7.slots.size ≤ ((0 : Int32)).toNatClampNeg) := inb_of Sz7 ⟨by decide, by decide⟩
    obtain ⟨T7, h7, X7, e7, W7, st7⟩ := stJ X2 hx hZ e2 Ar7 (j := (0 : Int32)) hin7 (g := (mkF m 21 #[.val (.ref r0), .val (.int i1), .val (.int i2)] [(.long (e0_w_bits_r0 ||| ((1 : Int64) <<< (i2 &&& 0x3f).toInt64))), (.int (0 : Int32)), (.ref w_bits_r0)])) rfl rfl (hb hby d9_21)
    have V7 : Arv Z h7 w_bits_r0 k_w_bits_r0 .long (2 : Int32) [(.long (e0_w_bits_r0 ||| ((1 : Int64) <<< (i2 &&& 0x3f).toInt64))), (.long e1_w_bits_r0)] (.long (0 : Int64)) := Arv.set Ar7 Cq7 Sz7 Nn7 Hh7 Gg7 rfl W7 0 rfl (Nat.le_of_ble_eq_true rfl)
    have N7 := Fr.snoc X7 N0 g_w_bits_r0
    have K8 : Keep h0 h7 [w_bits_r0] := (Keep.refl h0 [w_bits_r0]).wr W7 (Or.inl (List.mem_of_getElem? (i := 0) rfl))
    have pre9 : ∀ t, Steps p.tables e below (T7.setTop (mkF m 22 #[.val (.ref r0), .val (.int i1), .val (.int i2)] [])) t → Steps p.tables e below (s₁.setTop (entryFrame m #[(.ref r0), (.int i1), (.int i2)] 3)) t := by
      intro t k
      refine pre5 _ ?_
      show Steps p.tables e below (T2.setTop (mkF m 15 #[.val (.ref r0), .val (.int i1), .val (.int i2)] [(.int (0 : Int32)), (.ref w_bits_r0)])) _
      refine Jvm.Free.XT.dup2 X2.here hx rfl (hb hby d9_15) rfl rfl rfl ?_
      show Steps p.tables e below (T2.setTop (mkF m 16 #[.val (.ref r0), .val (.int i1), .val (.int i2)] [(.int (0 : Int32)), (.ref w_bits_r0), (.int (0 : Int32)), (.ref w_bits_r0)])) _
      refine X2.laload hx (j := (0 : Int32)) (v := (.long e0_w_bits_r0)) (by rw [e2]; exact Ar6.1) (State.isArrayOf_alike hZ.alike Ar6.2.1) Ar6.2.2 hin6 hat6 (g := (mkF m 16 #[.val (.ref r0), .val (.int i1), .val (.int i2)] [(.int (0 : Int32)), (.ref w_bits_r0), (.int (0 : Int32)), (.ref w_bits_r0)])) rfl rfl (hb hby d9_16) _ ?_
      show Steps p.tables e below (T2.setTop (mkF m 17 #[.val (.ref r0), .val (.int i1), .val (.int i2)] [(.long e0_w_bits_r0), (.int (0 : Int32)), (.ref w_bits_r0)])) _
      refine XS.lconst X2.here hx rfl (hb hby d9_17) ?_
      show Steps p.tables e below (T2.setTop (mkF m 18 #[.val (.ref r0), .val (.int i1), .val (.int i2)] [(.long (1 : Int64)), (.long e0_w_bits_r0), (.int (0 : Int32)), (.ref w_bits_r0)])) _
      refine XS.iloadN X2.here hx rfl (hb hby d9_18) rfl ?_
      show Steps p.tables e below (T2.setTop (mkF m 19 #[.val (.ref r0), .val (.int i1), .val (.int i2)] [(.int i2), (.long (1 : Int64)), (.long e0_w_bits_r0), (.int (0 : Int32)), (.ref w_bits_r0)])) _
      refine XS.lshl X2.here hx rfl (hb hby d9_19) rfl ?_
      show Steps p.tables e below (T2.setTop (mkF m 20 #[.val (.ref r0), .val (.int i1), .val (.int i2)] [(.long ((1 : Int64) <<< (i2 &&& 0x3f).toInt64)), (.long e0_w_bits_r0), (.int (0 : Int32)), (.ref w_bits_r0)])) _
      refine XS.lor X2.here hx rfl (hb hby d9_20) rfl ?_
      show Steps p.tables e below (T2.setTop (mkF m 21 #[.val (.ref r0), .val (.int i1), .val (.int i2)] [(.long (e0_w_bits_r0 ||| ((1 : Int64) <<< (i2 &&& 0x3f).toInt64))), (.int (0 : Int32)), (.ref w_bits_r0)])) _
      refine st7 _ ?_
      exact k
    obtain ⟨fs, hr, hrun, hended, hW, hsame⟩ := X7.leave (v := none) (fun _ => rfl)
    refine ⟨_, _, pre9 _ ?_, hrun, hended, _, _, rfl, ?_, ⟨_, rfl⟩, hW, hsame.mono (by decide) (by decide)⟩
    · show Steps p.tables e below (T7.setTop (mkF m 22 #[.val (.ref r0), .val (.int i1), .val (.int i2)] [])) _
      exact X7.returnOut hx Bd.returns (hb hby d9_22) hr
    · show Q9 Z r0 i1 i2 w_bits_r0 w_words_r0 e0_w_bits_r0 e1_w_bits_r0 k_w_bits_r0 h0 n0 _ T7.heap _
      rw [e7]
      exact ⟨rfl, N7, K8, (by rw [show (own_v9_w_bits_r0_1 i1 i2 w_words_r0 e1_w_bits_r0) = e1_w_bits_r0 from (if_pos hk4)]; exact (by rw [show (own_v9_w_bits_r0_0 i1 i2 w_words_r0 e0_w_bits_r0) = (e0_w_bits_r0 ||| ((1 : Int64) <<< (i2 &&& 0x3f).toInt64)) from (if_pos hk4)]; exact V7))⟩
  · have pre10 : ∀ t, Steps p.tables e below (T2.setTop (mkF m 15 #[.val (.ref r0), .val (.int i1), .val (.int i2)] [(.int (1 : Int32)), (.ref w_bits_r0)])) t → Steps p.tables e below (s₁.setTop (entryFrame m #[(.ref r0), (.int i1), (.int i2)] 3)) t := fun t k => pre3 t (by rw [hk4]; exact k)
    obtain ⟨cl11, Ar11, Cq11, Sz11, Nn11, Hh11, Gg11⟩ := id V_w_bits_r0
    have hin11 : ¬ ((1 : Int32) < 0 ∨ cl11.slots.size ≤ ((1 : Int32)).toNatClampNeg) := inb_of Sz11 ⟨by decide, by decide⟩
    have hat11 : cl11.slots[((1 : Int32)).toNatClampNeg]? = some (.long e1_w_bits_r0) := Hh11.at hin11 rfl
    obtain ⟨cl12, Ar12, Cq12, Sz12, Nn12, Hh12, Gg12⟩ := id V_w_bits_r0
    have hin12 : ¬ ((1 : Int32) < 0 ∨ cl12.slots.size ≤ ((1 : Int32)).toNatClampNeg) := inb_of Sz12 ⟨by decide, by decide⟩
    obtain ⟨T12, h12, X12, e12, W12, st12⟩ := stJ X2 hx hZ e2 Ar12 (j := (1 : Int32)) hin12 (g := (mkF m 21 #[.val (.ref r0), .val (.int i1), .val (.int i2)] [(.long (e1_w_bits_r0 ||| ((1 : Int64) <<< (i2 &&& 0x3f).toInt64))), (.int (1 : Int32)), (.ref w_bits_r0)])) rfl rfl (hb hby d9_21)
    have V12 : Arv Z h12 w_bits_r0 k_w_bits_r0 .long (2 : Int32) [(.long e0_w_bits_r0), (.long (e1_w_bits_r0 ||| ((1 : Int64) <<< (i2 &&& 0x3f).toInt64)))] (.long (0 : Int64)) := Arv.set Ar12 Cq12 Sz12 Nn12 Hh12 Gg12 rfl W12 1 rfl (Nat.le_of_ble_eq_true rfl)
    have N12 := Fr.snoc X12 N0 g_w_bits_r0
    have K13 : Keep h0 h12 [w_bits_r0] := (Keep.refl h0 [w_bits_r0]).wr W12 (Or.inl (List.mem_of_getElem? (i := 0) rfl))
    have pre14 : ∀ t, Steps p.tables e below (T12.setTop (mkF m 22 #[.val (.ref r0), .val (.int i1), .val (.int i2)] [])) t → Steps p.tables e below (s₁.setTop (entryFrame m #[(.ref r0), (.int i1), (.int i2)] 3)) t := by
      intro t k
      refine pre10 _ ?_
      show Steps p.tables e below (T2.setTop (mkF m 15 #[.val (.ref r0), .val (.int i1), .val (.int i2)] [(.int (1 : Int32)), (.ref w_bits_r0)])) _
      refine Jvm.Free.XT.dup2 X2.here hx rfl (hb hby d9_15) rfl rfl rfl ?_
      show Steps p.tables e below (T2.setTop (mkF m 16 #[.val (.ref r0), .val (.int i1), .val (.int i2)] [(.int (1 : Int32)), (.ref w_bits_r0), (.int (1 : Int32)), (.ref w_bits_r0)])) _
      refine X2.laload hx (j := (1 : Int32)) (v := (.long e1_w_bits_r0)) (by rw [e2]; exact Ar11.1) (State.isArrayOf_alike hZ.alike Ar11.2.1) Ar11.2.2 hin11 hat11 (g := (mkF m 16 #[.val (.ref r0), .val (.int i1), .val (.int i2)] [(.int (1 : Int32)), (.ref w_bits_r0), (.int (1 : Int32)), (.ref w_bits_r0)])) rfl rfl (hb hby d9_16) _ ?_
      show Steps p.tables e below (T2.setTop (mkF m 17 #[.val (.ref r0), .val (.int i1), .val (.int i2)] [(.long e1_w_bits_r0), (.int (1 : Int32)), (.ref w_bits_r0)])) _
      refine XS.lconst X2.here hx rfl (hb hby d9_17) ?_
      show Steps p.tables e below (T2.setTop (mkF m 18 #[.val (.ref r0), .val (.int i1), .val (.int i2)] [(.long (1 : Int64)), (.long e1_w_bits_r0), (.int (1 : Int32)), (.ref w_bits_r0)])) _
      refine XS.iloadN X2.here hx rfl (hb hby d9_18) rfl ?_
      show Steps p.tables e below (T2.setTop (mkF m 19 #[.val (.ref r0), .val (.int i1), .val (.int i2)] [(.int i2), (.long (1 : Int64)), (.long e1_w_bits_r0), (.int (1 : Int32)), (.ref w_bits_r0)])) _
      refine XS.lshl X2.here hx rfl (hb hby d9_19) rfl ?_
      show Steps p.tables e below (T2.setTop (mkF m 20 #[.val (.ref r0), .val (.int i1), .val (.int i2)] [(.long ((1 : Int64) <<< (i2 &&& 0x3f).toInt64)), (.long e1_w_bits_r0), (.int (1 : Int32)), (.ref w_bits_r0)])) _
      refine XS.lor X2.here hx rfl (hb hby d9_20) rfl ?_
      show Steps p.tables e below (T2.setTop (mkF m 21 #[.val (.ref r0), .val (.int i1), .val (.int i2)] [(.long (e1_w_bits_r0 ||| ((1 : Int64) <<< (i2 &&& 0x3f).toInt64))), (.int (1 : Int32)), (.ref w_bits_r0)])) _
      refine st12 _ ?_
      exact k
    obtain ⟨fs, hr, hrun, hended, hW, hsame⟩ := X12.leave (v := none) (fun _ => rfl)
    refine ⟨_, _, pre14 _ ?_, hrun, hended, _, _, rfl, ?_, ⟨_, rfl⟩, hW, hsame.mono (by decide) (by decide)⟩
    · show Steps p.tables e below (T12.setTop (mkF m 22 #[.val (.ref r0), .val (.int i1), .val (.int i2)] [])) _
      exact X12.returnOut hx Bd.returns (hb hby d9_22) hr
    · show Q9 Z r0 i1 i2 w_bits_r0 w_words_r0 e0_w_bits_r0 e1_w_bits_r0 k_w_bits_r0 h0 n0 _ T12.heap _
      rw [e12]
      exact ⟨rfl, N12, K13, (by rw [show (own_v9_w_bits_r0_1 i1 i2 w_words_r0 e1_w_bits_r0) = (e1_w_bits_r0 ||| ((1 : Int64) <<< (i2 &&& 0x3f).toInt64)) from (if_neg (by rw [hk4]; decide))]; exact (by rw [show (own_v9_w_bits_r0_0 i1 i2 w_words_r0 e0_w_bits_r0) = e0_w_bits_r0 from (if_neg (by rw [hk4]; decide))]; exact V12))⟩
def own_r10 (i1 : Int32) (i2 : Int32) (i3 : Int32) : Int64 := (if i1 = i2 then ((1 : Int64) <<< (i3 &&& 0x3f).toInt64) else (0 : Int64))
def Q10 (Z : State) (i1 : Int32) (i2 : Int32) (i3 : Int32) (h0 : Heap) (n0 : Nat) (v : Option Value) (h : Heap) (L : List Loc) : Prop := v = some (.long (own_r10 i1 i2 i3)) ∧ Fr n0 L ∧ h = h0
theorem ef_10 (m : MethodId) (x0 : Int32) (x1 : Int32) (x2 : Int32) : entryFrame m #[(.int x0), (.int x1), (.int x2)] 3 = mkF m 0 #[.val (.int x0), .val (.int x1), .val (.int x2)] [] := by first | (simp [entryFrame, mkF, argsToLocals, Value.category]; done) | rfl
set_option maxRecDepth 65536 in
set_option maxHeartbeats 40000000 in
theorem rm10 (l : Launch) (Z : State) (a0 : Array Value) (hw : ∀ d ∈ tables_1, d.before a0 Z = true) (ws : List Jvm.Cond) (i1 : Int32) (i2 : Int32) (i3 : Int32) (h0 : Heap) (n0 : Nat) (Z0 : n0 ≤ h0.size) :
    MetFree l (⟨"com/example/fairmesh/fairmesh/node/AskedChunksAskPinLaw", "bit", "(III)J"⟩ : MethodName) (head1 (Jvm.Cond.code (⟨"com/example/fairmesh/fairmesh/node/AskedChunksAskPinLaw", "bit", "(III)J"⟩ : MethodName) method_3_code 3 (some .long) :: ws) ({ frames := 0, cells := 0, slots := 0, locals := 0 } : Room)) (fun a U => a = #[(.int i1), (.int i2), (.int i3)] ∧ Z.Warmed39 U.vm ∧ U.heap = h0) (fun _ _ _ _ _ => True) (fun _ U o U' => ∃ v L, o = .returned v ∧ Q10 Z i1 i2 i3 h0 n0 v U'.heap L ∧ FrameEnd U o U' L ({ frames := 0, cells := 0, slots := 0, locals := 0 } : Room).cells ({ frames := 0, cells := 0, slots := 0, locals := 0 } : Room).slots) := by
  refine MetFree.of_bodySF (plainFor_of_name pn_4) hisR ?_
  intro p e s m args below meth c s₁ Bd hml0 hP hK
  obtain ⟨rfl, hZ, hh⟩ := hP
  have hx := Bd.exec
  have hby := Bd.bytes
  have hml : c.maxLocals = 3 := hml0
  have hown : s.vm.findClass "com/example/fairmesh/fairmesh/node/AskedChunksAskPinLaw" = some m.cls := findClass_of_methodNamed Bd.named
  have hnm := (name_of_methodNamed Bd.named Bd.method).1
  have X0 : Stand p l e ({ frames := 0, cells := 0, slots := 0, locals := 0 } : Room) s m #[(.int i1), (.int i2), (.int i3)] below meth c s₁ [] 0 0 := Stand.of_body Bd
  have e0 : s₁.heap = h0 := by rw [← hh, Bd.state]; rfl
  have N0 := Fr.nil n0
  have pre0 : ∀ t, Steps p.tables e below (s₁.setTop (mkF m 0 #[.val (.int i1), .val (.int i2), .val (.int i3)] [])) t → Steps p.tables e below (s₁.setTop (entryFrame m #[(.int i1), (.int i2), (.int i3)] 3)) t := fun t k => castTop (ef_10 m i1 i2 i3) k
  have pre1 : ∀ t, Steps p.tables e below (s₁.setTop (mkF m 2 #[.val (.int i1), .val (.int i2), .val (.int i3)] [(.int i2), (.int i1)])) t → Steps p.tables e below (s₁.setTop (entryFrame m #[(.int i1), (.int i2), (.int i3)] 3)) t := by
    intro t k
    refine pre0 _ ?_
    show Steps p.tables e below (s₁.setTop (mkF m 0 #[.val (.int i1), .val (.int i2), .val (.int i3)] [])) _
    refine XS.iloadN X0.here hx rfl (hb hby d10_0) rfl ?_
    show Steps p.tables e below (s₁.setTop (mkF m 1 #[.val (.int i1), .val (.int i2), .val (.int i3)] [(.int i1)])) _
    refine XS.iloadN X0.here hx rfl (hb hby d10_1) rfl ?_
    exact k
  by_cases hc2_2 : i1 = i2
  · have pre3 : ∀ t, Steps p.tables e below (s₁.setTop (mkF m 10 #[.val (.int i1), .val (.int i2), .val (.int i3)] [(.long ((1 : Int64) <<< (i3 &&& 0x3f).toInt64))])) t → Steps p.tables e below (s₁.setTop (entryFrame m #[(.int i1), (.int i2), (.int i3)] 3)) t := by
      intro t k
      refine pre1 _ ?_
      show Steps p.tables e below (s₁.setTop (mkF m 2 #[.val (.int i1), .val (.int i2), .val (.int i3)] [(.int i2), (.int i1)])) _
      refine XS.icmpYes X0.here hx rfl (pc0 := 2) (pc' := 7) rfl (hb hby d10_2) rfl (teq hc2_2).1 (by decide) (by decide) ?_
      show Steps p.tables e below (s₁.setTop (mkF m 7 #[.val (.int i1), .val (.int i2), .val (.int i3)] [])) _
      refine XS.lconst X0.here hx rfl (hb hby d10_7) ?_
      show Steps p.tables e below (s₁.setTop (mkF m 8 #[.val (.int i1), .val (.int i2), .val (.int i3)] [(.long (1 : Int64))])) _
      refine XS.iloadN X0.here hx rfl (hb hby d10_8) rfl ?_
      show Steps p.tables e below (s₁.setTop (mkF m 9 #[.val (.int i1), .val (.int i2), .val (.int i3)] [(.int i3), (.long (1 : Int64))])) _
      refine XS.lshl X0.here hx rfl (hb hby d10_9) rfl ?_
      exact k
    obtain ⟨fs, hr, hrun, hended, hW, hsame⟩ := X0.leave (v := some (.long ((1 : Int64) <<< (i3 &&& 0x3f).toInt64))) (fun h => by rw [Bd.returns] at h; cases h)
    refine ⟨_, _, pre3 _ ?_, hrun, hended, _, _, rfl, ?_, ⟨_, rfl⟩, hW, hsame.mono (by decide) (by decide)⟩
    · show Steps p.tables e below (s₁.setTop (mkF m 10 #[.val (.int i1), .val (.int i2), .val (.int i3)] [(.long ((1 : Int64) <<< (i3 &&& 0x3f).toInt64))])) _
      exact lreturnOut X0 hx Bd.returns (hb hby d10_10) hr
    · show Q10 Z i1 i2 i3 h0 n0 _ s₁.heap _
      rw [e0]
      exact ⟨congrArg (fun z => some (Value.long z)) (show (own_r10 i1 i2 i3) = ((1 : Int64) <<< (i3 &&& 0x3f).toInt64) from (if_pos hc2_2)).symm, N0, rfl⟩
  · have pre4 : ∀ t, Steps p.tables e below (s₁.setTop (mkF m 6 #[.val (.int i1), .val (.int i2), .val (.int i3)] [(.long (0 : Int64))])) t → Steps p.tables e below (s₁.setTop (entryFrame m #[(.int i1), (.int i2), (.int i3)] 3)) t := by
      intro t k
      refine pre1 _ ?_
      show Steps p.tables e below (s₁.setTop (mkF m 2 #[.val (.int i1), .val (.int i2), .val (.int i3)] [(.int i2), (.int i1)])) _
      refine XS.icmpNo X0.here hx rfl (hb hby d10_2) rfl (feq hc2_2).1 ?_
      show Steps p.tables e below (s₁.setTop (mkF m 5 #[.val (.int i1), .val (.int i2), .val (.int i3)] [])) _
      refine XS.lconst X0.here hx rfl (hb hby d10_5) ?_
      exact k
    obtain ⟨fs, hr, hrun, hended, hW, hsame⟩ := X0.leave (v := some (.long (0 : Int64))) (fun h => by rw [Bd.returns] at h; cases h)
    refine ⟨_, _, pre4 _ ?_, hrun, hended, _, _, rfl, ?_, ⟨_, rfl⟩, hW, hsame.mono (by decide) (by decide)⟩
    · show Steps p.tables e below (s₁.setTop (mkF m 6 #[.val (.int i1), .val (.int i2), .val (.int i3)] [(.long (0 : Int64))])) _
      exact lreturnOut X0 hx Bd.returns (hb hby d10_6) hr
    · show Q10 Z i1 i2 i3 h0 n0 _ s₁.heap _
      rw [e0]
      exact ⟨congrArg (fun z => some (Value.long z)) (show (own_r10 i1 i2 i3) = (0 : Int64) from (if_neg hc2_2)).symm, N0, rfl⟩
def Q11 (Z : State) (r0 : Addr) (w_bits_r0 : Addr) (e0_w_bits_r0 : Int64) (e1_w_bits_r0 : Int64) (k_w_bits_r0 : ClassId) (h0 : Heap) (n0 : Nat) (v : Option Value) (h : Heap) (L : List Loc) : Prop := v = some (.long e0_w_bits_r0) ∧ Fr n0 L ∧ h = h0
theorem ef_11 (m : MethodId) (x0 : Addr) : entryFrame m #[(.ref x0), (.int (0 : Int32)), (.int (0 : Int32))] 3 = mkF m 0 #[.val (.ref x0), .val (.int (0 : Int32)), .val (.int (0 : Int32))] [] := by first | (simp [entryFrame, mkF, argsToLocals, Value.category]; done) | rfl
set_option maxRecDepth 65536 in
set_option maxHeartbeats 40000000 in
theorem rm11 (l : Launch) (Z : State) (a0 : Array Value) (hw : ∀ d ∈ tables_1, d.before a0 Z = true) (ws : List Jvm.Cond) (r0 : Addr) (w_bits_r0 : Addr) (e0_w_bits_r0 : Int64) (e1_w_bits_r0 : Int64) (k_w_bits_r0 : ClassId) (h0 : Heap) (n0 : Nat) (Z0 : n0 ≤ h0.size) (F_bits_r0 : Fld Z h0 r0 "com/example/fairmesh/fairmesh/node/AskedChunks" "bits" "[J" (.ref w_bits_r0)) (F_words_r0 : Fld Z h0 r0 "com/example/fairmesh/fairmesh/node/AskedChunks" "words" "I" (.int (1 : Int32))) (V_w_bits_r0 : Arv Z h0 w_bits_r0 k_w_bits_r0 .long (2 : Int32) [(.long e0_w_bits_r0), (.long e1_w_bits_r0)] (.long (0 : Int64))) :
    MetFree l (⟨"com/example/fairmesh/fairmesh/node/AskedChunks", "word", "(II)J"⟩ : MethodName) (head1 (Jvm.Cond.code (⟨"com/example/fairmesh/fairmesh/node/AskedChunks", "word", "(II)J"⟩ : MethodName) prog_18_method_6_code 3 (some .long) :: ws) ({ frames := 0, cells := 0, slots := 0, locals := 0 } : Room)) (fun a U => a = #[(.ref r0), (.int (0 : Int32)), (.int (0 : Int32))] ∧ Z.Warmed39 U.vm ∧ U.heap = h0) (fun _ _ _ _ _ => True) (fun _ U o U' => ∃ v L, o = .returned v ∧ Q11 Z r0 w_bits_r0 e0_w_bits_r0 e1_w_bits_r0 k_w_bits_r0 h0 n0 v U'.heap L ∧ FrameEnd U o U' L ({ frames := 0, cells := 0, slots := 0, locals := 0 } : Room).cells ({ frames := 0, cells := 0, slots := 0, locals := 0 } : Room).slots) := by
  refine MetFree.of_bodySF (plainFor_of_name pn_3) hisR ?_
  intro p e s m args below meth c s₁ Bd hml0 hP hK
  obtain ⟨rfl, hZ, hh⟩ := hP
  have hx := Bd.exec
  have hby := Bd.bytes
  have hml : c.maxLocals = 3 := hml0
  have hown : s.vm.findClass "com/example/fairmesh/fairmesh/node/AskedChunks" = some m.cls := findClass_of_methodNamed Bd.named
  have hnm := (name_of_methodNamed Bd.named Bd.method).1
  have X0 : Stand p l e ({ frames := 0, cells := 0, slots := 0, locals := 0 } : Room) s m #[(.ref r0), (.int (0 : Int32)), (.int (0 : Int32))] below meth c s₁ [] 0 0 := Stand.of_body Bd
  have e0 : s₁.heap = h0 := by rw [← hh, Bd.state]; rfl
  have N0 := Fr.nil n0
  have pre0 : ∀ t, Steps p.tables e below (s₁.setTop (mkF m 0 #[.val (.ref r0), .val (.int (0 : Int32)), .val (.int (0 : Int32))] [])) t → Steps p.tables e below (s₁.setTop (entryFrame m #[(.ref r0), (.int (0 : Int32)), (.int (0 : Int32))] 3)) t := fun t k => castTop (ef_11 m r0) k
  obtain ⟨T1, X1, e1, st1⟩ := getF X0 hx hZ hown (host := "") (Or.inl (hw _ (List.mem_of_getElem? (i := 58) rfl))) Via.refl e0 F_bits_r0 (g := (mkF m 1 #[.val (.ref r0), .val (.int (0 : Int32)), .val (.int (0 : Int32))] [(.ref r0)])) rfl rfl (hb hby d11_1)
  obtain ⟨T2, X2, e2, st2⟩ := getF X1 hx hZ hown (host := "") (Or.inl (hw _ (List.mem_of_getElem? (i := 53) rfl))) Via.refl e1 F_words_r0 (g := (mkF m 6 #[.val (.ref r0), .val (.int (0 : Int32)), .val (.int (0 : Int32))] [(.ref r0), (.int (0 : Int32)), (.ref w_bits_r0)])) rfl rfl (hb hby d11_6)
  obtain ⟨cl3, Ar3, Cq3, Sz3, Nn3, Hh3, Gg3⟩ := id V_w_bits_r0
  have hin3 : ¬ ((0 : Int32) < 0 ∨ cl3.slots.size ≤ ((0 : Int32)).toNatClampNeg) := inb_of Sz3 ⟨by decide, by decide⟩
  have hat3 : cl3.slots[((0 : Int32)).toNatClampNeg]? = some (.long e0_w_bits_r0) := Hh3.at hin3 rfl
  have pre4 : ∀ t, Steps p.tables e below (T2.setTop (mkF m 13 #[.val (.ref r0), .val (.int (0 : Int32)), .val (.int (0 : Int32))] [(.long e0_w_bits_r0)])) t → Steps p.tables e below (s₁.setTop (entryFrame m #[(.ref r0), (.int (0 : Int32)), (.int (0 : Int32))] 3)) t := by
    intro t k
    refine pre0 _ ?_
    show Steps p.tables e below (s₁.setTop (mkF m 0 #[.val (.ref r0), .val (.int (0 : Int32)), .val (.int (0 : Int32))] [])) _
    refine XS.aloadN X0.here hx rfl (hb hby d11_0) rfl rfl ?_
    show Steps p.tables e below (s₁.setTop (mkF m 1 #[.val (.ref r0), .val (.int (0 : Int32)), .val (.int (0 : Int32))] [(.ref r0)])) _
    refine st1 _ ?_
    show Steps p.tables e below (T1.setTop (mkF m 4 #[.val (.ref r0), .val (.int (0 : Int32)), .val (.int (0 : Int32))] [(.ref w_bits_r0)])) _
    refine XS.iloadN X1.here hx rfl (hb hby d11_4) rfl ?_
    show Steps p.tables e below (T1.setTop (mkF m 5 #[.val (.ref r0), .val (.int (0 : Int32)), .val (.int (0 : Int32))] [(.int (0 : Int32)), (.ref w_bits_r0)])) _
    refine XS.aloadN X1.here hx rfl (hb hby d11_5) rfl rfl ?_
    show Steps p.tables e below (T1.setTop (mkF m 6 #[.val (.ref r0), .val (.int (0 : Int32)), .val (.int (0 : Int32))] [(.ref r0), (.int (0 : Int32)), (.ref w_bits_r0)])) _
    refine st2 _ ?_
    show Steps p.tables e below (T2.setTop (mkF m 9 #[.val (.ref r0), .val (.int (0 : Int32)), .val (.int (0 : Int32))] [(.int (1 : Int32)), (.int (0 : Int32)), (.ref w_bits_r0)])) _
    refine XS.imul X2.here hx rfl (hb hby d11_9) rfl ?_
    show Steps p.tables e below (T2.setTop (mkF m 10 #[.val (.ref r0), .val (.int (0 : Int32)), .val (.int (0 : Int32))] [(.int (0 : Int32)), (.ref w_bits_r0)])) _
    refine XS.iloadN X2.here hx rfl (hb hby d11_10) rfl ?_
    show Steps p.tables e below (T2.setTop (mkF m 11 #[.val (.ref r0), .val (.int (0 : Int32)), .val (.int (0 : Int32))] [(.int (0 : Int32)), (.int (0 : Int32)), (.ref w_bits_r0)])) _
    refine XS.iadd X2.here hx rfl (hb hby d11_11) rfl ?_
    show Steps p.tables e below (T2.setTop (mkF m 12 #[.val (.ref r0), .val (.int (0 : Int32)), .val (.int (0 : Int32))] [(.int (0 : Int32)), (.ref w_bits_r0)])) _
    refine X2.laload hx (j := (0 : Int32)) (v := (.long e0_w_bits_r0)) (by rw [e2]; exact Ar3.1) (State.isArrayOf_alike hZ.alike Ar3.2.1) Ar3.2.2 hin3 hat3 (g := (mkF m 12 #[.val (.ref r0), .val (.int (0 : Int32)), .val (.int (0 : Int32))] [(.int (0 : Int32)), (.ref w_bits_r0)])) rfl rfl (hb hby d11_12) _ ?_
    exact k
  obtain ⟨fs, hr, hrun, hended, hW, hsame⟩ := X2.leave (v := some (.long e0_w_bits_r0)) (fun h => by rw [Bd.returns] at h; cases h)
  refine ⟨_, _, pre4 _ ?_, hrun, hended, _, _, rfl, ?_, ⟨_, rfl⟩, hW, hsame.mono (by decide) (by decide)⟩
  · show Steps p.tables e below (T2.setTop (mkF m 13 #[.val (.ref r0), .val (.int (0 : Int32)), .val (.int (0 : Int32))] [(.long e0_w_bits_r0)])) _
    exact lreturnOut X2 hx Bd.returns (hb hby d11_13) hr
  · show Q11 Z r0 w_bits_r0 e0_w_bits_r0 e1_w_bits_r0 k_w_bits_r0 h0 n0 _ T2.heap _
    rw [e2]
    exact ⟨rfl, N0, rfl⟩
def Q11a (Z : State) (r0 : Addr) (w_bits_r0 : Addr) (e0_w_bits_r0 : Int64) (e1_w_bits_r0 : Int64) (k_w_bits_r0 : ClassId) (h0 : Heap) (n0 : Nat) (v : Option Value) (h : Heap) (L : List Loc) : Prop := v = some (.long e1_w_bits_r0) ∧ Fr n0 L ∧ h = h0
theorem ef_11a (m : MethodId) (x0 : Addr) : entryFrame m #[(.ref x0), (.int (1 : Int32)), (.int (0 : Int32))] 3 = mkF m 0 #[.val (.ref x0), .val (.int (1 : Int32)), .val (.int (0 : Int32))] [] := by first | (simp [entryFrame, mkF, argsToLocals, Value.category]; done) | rfl
set_option maxRecDepth 65536 in
set_option maxHeartbeats 40000000 in
theorem rm11a (l : Launch) (Z : State) (a0 : Array Value) (hw : ∀ d ∈ tables_1, d.before a0 Z = true) (ws : List Jvm.Cond) (r0 : Addr) (w_bits_r0 : Addr) (e0_w_bits_r0 : Int64) (e1_w_bits_r0 : Int64) (k_w_bits_r0 : ClassId) (h0 : Heap) (n0 : Nat) (Z0 : n0 ≤ h0.size) (F_bits_r0 : Fld Z h0 r0 "com/example/fairmesh/fairmesh/node/AskedChunks" "bits" "[J" (.ref w_bits_r0)) (F_words_r0 : Fld Z h0 r0 "com/example/fairmesh/fairmesh/node/AskedChunks" "words" "I" (.int (1 : Int32))) (V_w_bits_r0 : Arv Z h0 w_bits_r0 k_w_bits_r0 .long (2 : Int32) [(.long e0_w_bits_r0), (.long e1_w_bits_r0)] (.long (0 : Int64))) :
    MetFree l (⟨"com/example/fairmesh/fairmesh/node/AskedChunks", "word", "(II)J"⟩ : MethodName) (head1 (Jvm.Cond.code (⟨"com/example/fairmesh/fairmesh/node/AskedChunks", "word", "(II)J"⟩ : MethodName) prog_18_method_6_code 3 (some .long) :: ws) ({ frames := 0, cells := 0, slots := 0, locals := 0 } : Room)) (fun a U => a = #[(.ref r0), (.int (1 : Int32)), (.int (0 : Int32))] ∧ Z.Warmed39 U.vm ∧ U.heap = h0) (fun _ _ _ _ _ => True) (fun _ U o U' => ∃ v L, o = .returned v ∧ Q11a Z r0 w_bits_r0 e0_w_bits_r0 e1_w_bits_r0 k_w_bits_r0 h0 n0 v U'.heap L ∧ FrameEnd U o U' L ({ frames := 0, cells := 0, slots := 0, locals := 0 } : Room).cells ({ frames := 0, cells := 0, slots := 0, locals := 0 } : Room).slots) := by
  refine MetFree.of_bodySF (plainFor_of_name pn_3) hisR ?_
  intro p e s m args below meth c s₁ Bd hml0 hP hK
  obtain ⟨rfl, hZ, hh⟩ := hP
  have hx := Bd.exec
  have hby := Bd.bytes
  have hml : c.maxLocals = 3 := hml0
  have hown : s.vm.findClass "com/example/fairmesh/fairmesh/node/AskedChunks" = some m.cls := findClass_of_methodNamed Bd.named
  have hnm := (name_of_methodNamed Bd.named Bd.method).1
  have X0 : Stand p l e ({ frames := 0, cells := 0, slots := 0, locals := 0 } : Room) s m #[(.ref r0), (.int (1 : Int32)), (.int (0 : Int32))] below meth c s₁ [] 0 0 := Stand.of_body Bd
  have e0 : s₁.heap = h0 := by rw [← hh, Bd.state]; rfl
  have N0 := Fr.nil n0
  have pre0 : ∀ t, Steps p.tables e below (s₁.setTop (mkF m 0 #[.val (.ref r0), .val (.int (1 : Int32)), .val (.int (0 : Int32))] [])) t → Steps p.tables e below (s₁.setTop (entryFrame m #[(.ref r0), (.int (1 : Int32)), (.int (0 : Int32))] 3)) t := fun t k => castTop (ef_11a m r0) k
  obtain ⟨T1, X1, e1, st1⟩ := getF X0 hx hZ hown (host := "") (Or.inl (hw _ (List.mem_of_getElem? (i := 58) rfl))) Via.refl e0 F_bits_r0 (g := (mkF m 1 #[.val (.ref r0), .val (.int (1 : Int32)), .val (.int (0 : Int32))] [(.ref r0)])) rfl rfl (hb hby d11_1)
  obtain ⟨T2, X2, e2, st2⟩ := getF X1 hx hZ hown (host := "") (Or.inl (hw _ (List.mem_of_getElem? (i := 53) rfl))) Via.refl e1 F_words_r0 (g := (mkF m 6 #[.val (.ref r0), .val (.int (1 : Int32)), .val (.int (0 : Int32))] [(.ref r0), (.int (1 : Int32)), (.ref w_bits_r0)])) rfl rfl (hb hby d11_6)
  obtain ⟨cl3, Ar3, Cq3, Sz3, Nn3, Hh3, Gg3⟩ := id V_w_bits_r0
  have hin3 : ¬ ((1 : Int32) < 0 ∨ cl3.slots.size ≤ ((1 : Int32)).toNatClampNeg) := inb_of Sz3 ⟨by decide, by decide⟩
  have hat3 : cl3.slots[((1 : Int32)).toNatClampNeg]? = some (.long e1_w_bits_r0) := Hh3.at hin3 rfl
  have pre4 : ∀ t, Steps p.tables e below (T2.setTop (mkF m 13 #[.val (.ref r0), .val (.int (1 : Int32)), .val (.int (0 : Int32))] [(.long e1_w_bits_r0)])) t → Steps p.tables e below (s₁.setTop (entryFrame m #[(.ref r0), (.int (1 : Int32)), (.int (0 : Int32))] 3)) t := by
    intro t k
    refine pre0 _ ?_
    show Steps p.tables e below (s₁.setTop (mkF m 0 #[.val (.ref r0), .val (.int (1 : Int32)), .val (.int (0 : Int32))] [])) _
    refine XS.aloadN X0.here hx rfl (hb hby d11_0) rfl rfl ?_
    show Steps p.tables e below (s₁.setTop (mkF m 1 #[.val (.ref r0), .val (.int (1 : Int32)), .val (.int (0 : Int32))] [(.ref r0)])) _
    refine st1 _ ?_
    show Steps p.tables e below (T1.setTop (mkF m 4 #[.val (.ref r0), .val (.int (1 : Int32)), .val (.int (0 : Int32))] [(.ref w_bits_r0)])) _
    refine XS.iloadN X1.here hx rfl (hb hby d11_4) rfl ?_
    show Steps p.tables e below (T1.setTop (mkF m 5 #[.val (.ref r0), .val (.int (1 : Int32)), .val (.int (0 : Int32))] [(.int (1 : Int32)), (.ref w_bits_r0)])) _
    refine XS.aloadN X1.here hx rfl (hb hby d11_5) rfl rfl ?_
    show Steps p.tables e below (T1.setTop (mkF m 6 #[.val (.ref r0), .val (.int (1 : Int32)), .val (.int (0 : Int32))] [(.ref r0), (.int (1 : Int32)), (.ref w_bits_r0)])) _
    refine st2 _ ?_
    show Steps p.tables e below (T2.setTop (mkF m 9 #[.val (.ref r0), .val (.int (1 : Int32)), .val (.int (0 : Int32))] [(.int (1 : Int32)), (.int (1 : Int32)), (.ref w_bits_r0)])) _
    refine XS.imul X2.here hx rfl (hb hby d11_9) rfl ?_
    show Steps p.tables e below (T2.setTop (mkF m 10 #[.val (.ref r0), .val (.int (1 : Int32)), .val (.int (0 : Int32))] [(.int (1 : Int32)), (.ref w_bits_r0)])) _
    refine XS.iloadN X2.here hx rfl (hb hby d11_10) rfl ?_
    show Steps p.tables e below (T2.setTop (mkF m 11 #[.val (.ref r0), .val (.int (1 : Int32)), .val (.int (0 : Int32))] [(.int (0 : Int32)), (.int (1 : Int32)), (.ref w_bits_r0)])) _
    refine XS.iadd X2.here hx rfl (hb hby d11_11) rfl ?_
    show Steps p.tables e below (T2.setTop (mkF m 12 #[.val (.ref r0), .val (.int (1 : Int32)), .val (.int (0 : Int32))] [(.int (1 : Int32)), (.ref w_bits_r0)])) _
    refine X2.laload hx (j := (1 : Int32)) (v := (.long e1_w_bits_r0)) (by rw [e2]; exact Ar3.1) (State.isArrayOf_alike hZ.alike Ar3.2.1) Ar3.2.2 hin3 hat3 (g := (mkF m 12 #[.val (.ref r0), .val (.int (1 : Int32)), .val (.int (0 : Int32))] [(.int (1 : Int32)), (.ref w_bits_r0)])) rfl rfl (hb hby d11_12) _ ?_
    exact k
  obtain ⟨fs, hr, hrun, hended, hW, hsame⟩ := X2.leave (v := some (.long e1_w_bits_r0)) (fun h => by rw [Bd.returns] at h; cases h)
  refine ⟨_, _, pre4 _ ?_, hrun, hended, _, _, rfl, ?_, ⟨_, rfl⟩, hW, hsame.mono (by decide) (by decide)⟩
  · show Steps p.tables e below (T2.setTop (mkF m 13 #[.val (.ref r0), .val (.int (1 : Int32)), .val (.int (0 : Int32))] [(.long e1_w_bits_r0)])) _
    exact lreturnOut X2 hx Bd.returns (hb hby d11_13) hr
  · show Q11a Z r0 w_bits_r0 e0_w_bits_r0 e1_w_bits_r0 k_w_bits_r0 h0 n0 _ T2.heap _
    rw [e2]
    exact ⟨rfl, N0, rfl⟩
def Q12 (Z : State) (r0 : Addr) (h0 : Heap) (n0 : Nat) (v : Option Value) (h : Heap) (L : List Loc) : Prop := v = some (.int (0 : Int32)) ∧ Fr n0 L ∧ h = h0
theorem ef_12 (m : MethodId) (x0 : Addr) : entryFrame m #[(.ref x0)] 1 = mkF m 0 #[.val (.ref x0)] [] := by first | (simp [entryFrame, mkF, argsToLocals, Value.category]; done) | rfl
set_option maxRecDepth 65536 in
set_option maxHeartbeats 40000000 in
theorem rm12 (l : Launch) (Z : State) (a0 : Array Value) (hw : ∀ d ∈ tables_1, d.before a0 Z = true) (ws : List Jvm.Cond) (r0 : Addr) (h0 : Heap) (n0 : Nat) (Z0 : n0 ≤ h0.size) (F_count_r0 : Fld Z h0 r0 "com/example/fairmesh/fairmesh/node/AskedChunks" "count" "I" (.int (0 : Int32))) :
    MetFree l (⟨"com/example/fairmesh/fairmesh/node/AskedChunks", "size", "()I"⟩ : MethodName) (head1 (Jvm.Cond.code (⟨"com/example/fairmesh/fairmesh/node/AskedChunks", "size", "()I"⟩ : MethodName) prog_18_method_4_code 1 (some .int) :: ws) ({ frames := 0, cells := 0, slots := 0, locals := 0 } : Room)) (fun a U => a = #[(.ref r0)] ∧ Z.Warmed39 U.vm ∧ U.heap = h0) (fun _ _ _ _ _ => True) (fun _ U o U' => ∃ v L, o = .returned v ∧ Q12 Z r0 h0 n0 v U'.heap L ∧ FrameEnd U o U' L ({ frames := 0, cells := 0, slots := 0, locals := 0 } : Room).cells ({ frames := 0, cells := 0, slots := 0, locals := 0 } : Room).slots) := by
  refine MetFree.of_bodySF (plainFor_of_name pn_3) hisR ?_
  intro p e s m args below meth c s₁ Bd hml0 hP hK
  obtain ⟨rfl, hZ, hh⟩ := hP
  have hx := Bd.exec
  have hby := Bd.bytes
  have hml : c.maxLocals = 1 := hml0
  have hown : s.vm.findClass "com/example/fairmesh/fairmesh/node/AskedChunks" = some m.cls := findClass_of_methodNamed Bd.named
  have hnm := (name_of_methodNamed Bd.named Bd.method).1
  have X0 : Stand p l e ({ frames := 0, cells := 0, slots := 0, locals := 0 } : Room) s m #[(.ref r0)] below meth c s₁ [] 0 0 := Stand.of_body Bd
  have e0 : s₁.heap = h0 := by rw [← hh, Bd.state]; rfl
  have N0 := Fr.nil n0
  have pre0 : ∀ t, Steps p.tables e below (s₁.setTop (mkF m 0 #[.val (.ref r0)] [])) t → Steps p.tables e below (s₁.setTop (entryFrame m #[(.ref r0)] 1)) t := fun t k => castTop (ef_12 m r0) k
  obtain ⟨T1, X1, e1, st1⟩ := getF X0 hx hZ hown (host := "") (Or.inl (hw _ (List.mem_of_getElem? (i := 79) rfl))) Via.refl e0 F_count_r0 (g := (mkF m 1 #[.val (.ref r0)] [(.ref r0)])) rfl rfl (hb hby d12_1)
  have pre2 : ∀ t, Steps p.tables e below (T1.setTop (mkF m 4 #[.val (.ref r0)] [(.int (0 : Int32))])) t → Steps p.tables e below (s₁.setTop (entryFrame m #[(.ref r0)] 1)) t := by
    intro t k
    refine pre0 _ ?_
    show Steps p.tables e below (s₁.setTop (mkF m 0 #[.val (.ref r0)] [])) _
    refine XS.aloadN X0.here hx rfl (hb hby d12_0) rfl rfl ?_
    show Steps p.tables e below (s₁.setTop (mkF m 1 #[.val (.ref r0)] [(.ref r0)])) _
    refine st1 _ ?_
    exact k
  obtain ⟨fs, hr, hrun, hended, hW, hsame⟩ := X1.leave (v := some (.int (0 : Int32))) (fun h => by rw [Bd.returns] at h; cases h)
  refine ⟨_, _, pre2 _ ?_, hrun, hended, _, _, rfl, ?_, ⟨_, rfl⟩, hW, hsame.mono (by decide) (by decide)⟩
  · show Steps p.tables e below (T1.setTop (mkF m 4 #[.val (.ref r0)] [(.int (0 : Int32))])) _
    exact retI X1 hx Bd.returns (hb hby d12_4) hr
  · show Q12 Z r0 h0 n0 _ T1.heap _
    rw [e1]
    exact ⟨rfl, N0, rfl⟩
def own_j0_145_0 (i1 : Int32) (i2 : Int32) (i3 : Int32) (i4 : Int32) (i5 : Int32) (i6 : Int32) : Int32 := (if (own_v9_w_bits_r0_0 (i5 &&& (1 : Int32)) (i6 &&& (63 : Int32)) (1 : Int32) (own_v9_w_bits_r0_0 (i3 &&& (1 : Int32)) (i4 &&& (63 : Int32)) (1 : Int32) (own_v9_w_bits_r0_0 (i1 &&& (1 : Int32)) (i2 &&& (63 : Int32)) (1 : Int32) (0 : Int64)))) = (((own_r10 (i1 &&& (1 : Int32)) (0 : Int32) (i2 &&& (63 : Int32))) ||| (own_r10 (i3 &&& (1 : Int32)) (0 : Int32) (i4 &&& (63 : Int32)))) ||| (own_r10 (i5 &&& (1 : Int32)) (0 : Int32) (i6 &&& (63 : Int32)))) then (if (own_v9_w_bits_r0_1 (i5 &&& (1 : Int32)) (i6 &&& (63 : Int32)) (1 : Int32) (own_v9_w_bits_r0_1 (i3 &&& (1 : Int32)) (i4 &&& (63 : Int32)) (1 : Int32) (own_v9_w_bits_r0_1 (i1 &&& (1 : Int32)) (i2 &&& (63 : Int32)) (1 : Int32) (0 : Int64)))) = (((own_r10 (i1 &&& (1 : Int32)) (1 : Int32) (i2 &&& (63 : Int32))) ||| (own_r10 (i3 &&& (1 : Int32)) (1 : Int32) (i4 &&& (63 : Int32)))) ||| (own_r10 (i5 &&& (1 : Int32)) (1 : Int32) (i6 &&& (63 : Int32)))) then (1 : Int32) else (0 : Int32)) else (0 : Int32))
theorem own_ob0_g58_2 (i1 : Int32) (i2 : Int32) : (((i1 &&& (1 : Int32)) * (1 : Int32)) + ((i2 &&& (63 : Int32)) / (64 : Int32))) = (0 : Int32) ∨ (((i1 &&& (1 : Int32)) * (1 : Int32)) + ((i2 &&& (63 : Int32)) / (64 : Int32))) = (1 : Int32) := by
  have hd : (i2 &&& (63 : Int32)) / (64 : Int32) = 0 := own_d0 i2
  rw [hd]
  rcases and_one i1 with h | h <;> rw [h] <;> decide
theorem own_ob0_g67_2 (i3 : Int32) (i4 : Int32) : (((i3 &&& (1 : Int32)) * (1 : Int32)) + ((i4 &&& (63 : Int32)) / (64 : Int32))) = (0 : Int32) ∨ (((i3 &&& (1 : Int32)) * (1 : Int32)) + ((i4 &&& (63 : Int32)) / (64 : Int32))) = (1 : Int32) := by
  have hd : (i4 &&& (63 : Int32)) / (64 : Int32) = 0 := own_d0 i4
  rw [hd]
  rcases and_one i3 with h | h <;> rw [h] <;> decide
theorem own_ob0_g76_2 (i5 : Int32) (i6 : Int32) : (((i5 &&& (1 : Int32)) * (1 : Int32)) + ((i6 &&& (63 : Int32)) / (64 : Int32))) = (0 : Int32) ∨ (((i5 &&& (1 : Int32)) * (1 : Int32)) + ((i6 &&& (63 : Int32)) / (64 : Int32))) = (1 : Int32) := by
  have hd : (i6 &&& (63 : Int32)) / (64 : Int32) = 0 := own_d0 i6
  rw [hd]
  rcases and_one i5 with h | h <;> rw [h] <;> decide
def Q0 (Z : State) (i1 : Int32) (i2 : Int32) (i3 : Int32) (i4 : Int32) (i5 : Int32) (i6 : Int32) (w_DEFAULTCAPACITY_EMPTY_ELEMENTDATA : Addr) (h0 : Heap) (n0 : Nat) (v : Option Value) (h : Heap) (L : List Loc) : Prop := v = some (.int (nar .boolean (own_j0_145_0 i1 i2 i3 i4 i5 i6))) ∧ Fr n0 L
theorem ef_0 (m : MethodId) (x0 : Int32) (x1 : Int32) (x2 : Int32) (x3 : Int32) (x4 : Int32) (x5 : Int32) : entryFrame m #[(.int x0), (.int x1), (.int x2), (.int x3), (.int x4), (.int x5)] maxLocals = mkF m 0 #[.val (.int x0), .val (.int x1), .val (.int x2), .val (.int x3), .val (.int x4), .val (.int x5), .unset, .unset, .unset, .unset, .unset, .unset, .unset, .unset, .unset, .unset, .unset] [] := by first | (simp [entryFrame, mkF, argsToLocals, Value.category, maxLocals]; done) | rfl
set_option maxRecDepth 65536 in
set_option maxHeartbeats 40000000 in
theorem rm0 (l : Launch) (Z : State) (a0 : Array Value) (hw : ∀ d ∈ tables_1, d.before a0 Z = true) (ws : List Jvm.Cond) (i1 : Int32) (i2 : Int32) (i3 : Int32) (i4 : Int32) (i5 : Int32) (i6 : Int32) (w_DEFAULTCAPACITY_EMPTY_ELEMENTDATA : Addr) (h0 : Heap) (n0 : Nat) (Z0 : n0 ≤ h0.size) (S_DEFAULTCAPACITY_EMPTY_ELEMENTDATA : Sta Z Z.heap "java/util/ArrayList" "DEFAULTCAPACITY_EMPTY_ELEMENTDATA" "[Ljava/lang/Object;" (.ref w_DEFAULTCAPACITY_EMPTY_ELEMENTDATA)) (O_ : Old Z n0 h0) :
    MetFree l x (head1 (Jvm.Cond.code x code maxLocals ret :: ws) room_1) (fun a U => a = #[(.int i1), (.int i2), (.int i3), (.int i4), (.int i5), (.int i6)] ∧ Z.Warmed39 U.vm ∧ U.heap = h0) (fun _ _ _ _ _ => True) (fun _ U o U' => ∃ v L, o = .returned v ∧ Q0 Z i1 i2 i3 i4 i5 i6 w_DEFAULTCAPACITY_EMPTY_ELEMENTDATA h0 n0 v U'.heap L ∧ FrameEnd U o U' L room_1.cells room_1.slots) := by
  refine MetFree.of_bodySF (plainFor_of_name pn_4) hisR ?_
  intro p e s m args below meth c s₁ Bd hml0 hP hK
  obtain ⟨rfl, hZ, hh⟩ := hP
  have hx := Bd.exec
  have hby := Bd.bytes
  have hml : c.maxLocals = 17 := hml0
  have hown : s.vm.findClass "com/example/fairmesh/fairmesh/node/AskedChunksAskPinLaw" = some m.cls := findClass_of_methodNamed Bd.named
  have hnm := (name_of_methodNamed Bd.named Bd.method).1
  have X0 : Stand p l e room_1 s m #[(.int i1), (.int i2), (.int i3), (.int i4), (.int i5), (.int i6)] below meth c s₁ [] 0 0 := Stand.of_body Bd
  have e0 : s₁.heap = h0 := by rw [← hh, Bd.state]; rfl
  have N0 := Fr.nil n0
  have pre0 : ∀ t, Steps p.tables e below (s₁.setTop (mkF m 0 #[.val (.int i1), .val (.int i2), .val (.int i3), .val (.int i4), .val (.int i5), .val (.int i6), .unset, .unset, .unset, .unset, .unset, .unset, .unset, .unset, .unset, .unset, .unset] [])) t → Steps p.tables e below (s₁.setTop (entryFrame m #[(.int i1), (.int i2), (.int i3), (.int i4), (.int i5), (.int i6)] maxLocals)) t := fun t k => castTop (ef_0 m i1 i2 i3 i4 i5 i6) k
  obtain ⟨T1, h1, X1, e1, E1, A1, D1, -, st1⟩ := newO X0 hx hZ hown (hw _ (List.mem_of_getElem? (i := 0) rfl)) (hw _ (List.mem_of_getElem? (i := 1) rfl)) (hw _ (List.mem_of_getElem? (i := 2) rfl)) e0 (g := (mkF m 35 #[.val (.int i1), .val (.int i2), .val (.int i3), .val (.int i4), .val (.int i5), .val (.int i6), .val (.int (i1 &&& (1 : Int32))), .val (.int (i3 &&& (1 : Int32))), .val (.int (i5 &&& (1 : Int32))), .val (.int (i2 &&& (63 : Int32))), .val (.int (i4 &&& (63 : Int32))), .val (.int (i6 &&& (63 : Int32))), .unset, .unset, .unset, .unset, .unset] [])) rfl (hb hby at_35) (by decide) (by decide)
  obtain ⟨b1, g1⟩ : ∃ z, z = h0.size := ⟨_, rfl⟩
  rw [← g1] at A1 D1 st1
  have sz_b1 : h0.size ≤ b1 := Nat.le_trans (Keep.refl h0 []).1 (Nat.le_of_eq g1.symm)
  have K2 : Keep h0 h1 [] := (Keep.refl h0 []).ext E1
  have Fneighbours_1 : Fld Z h1 b1 "com/example/fairmesh/fairmesh/node/AskedChunks" "neighbours" "Ljava/util/List;" .null := D1 (Or.inr (hw _ (List.mem_of_getElem? (i := 34) rfl))) (ty := (.object "java/util/List")) (by decide)
  have Fwords_1 : Fld Z h1 b1 "com/example/fairmesh/fairmesh/node/AskedChunks" "words" "I" (.int (0 : Int32)) := D1 (Or.inr (hw _ (List.mem_of_getElem? (i := 54) rfl))) (ty := .int) (by decide)
  have Fseqs_1 : Fld Z h1 b1 "com/example/fairmesh/fairmesh/node/AskedChunks" "seqs" "[J" .null := D1 (Or.inl (hw _ (List.mem_of_getElem? (i := 57) rfl))) (ty := (.array .long)) (by decide)
  have Fbits_1 : Fld Z h1 b1 "com/example/fairmesh/fairmesh/node/AskedChunks" "bits" "[J" .null := D1 (Or.inl (hw _ (List.mem_of_getElem? (i := 59) rfl))) (ty := (.array .long)) (by decide)
  have Fcount_1 : Fld Z h1 b1 "com/example/fairmesh/fairmesh/node/AskedChunks" "count" "I" (.int (0 : Int32)) := D1 (Or.inl (hw _ (List.mem_of_getElem? (i := 80) rfl))) (ty := .int) (by decide)
  obtain ⟨T3, h3, X3, e3, E3, A3, D3, -, st3⟩ := newO X1 hx hZ hown (hw _ (List.mem_of_getElem? (i := 3) rfl)) (hw _ (List.mem_of_getElem? (i := 4) rfl)) (hw _ (List.mem_of_getElem? (i := 5) rfl)) e1 (g := (mkF m 39 #[.val (.int i1), .val (.int i2), .val (.int i3), .val (.int i4), .val (.int i5), .val (.int i6), .val (.int (i1 &&& (1 : Int32))), .val (.int (i3 &&& (1 : Int32))), .val (.int (i5 &&& (1 : Int32))), .val (.int (i2 &&& (63 : Int32))), .val (.int (i4 &&& (63 : Int32))), .val (.int (i6 &&& (63 : Int32))), .unset, .unset, .unset, .unset, .unset] [(.ref b1), (.ref b1)])) rfl (hb hby at_39) (by decide) (by decide)
  obtain ⟨b3, g3⟩ : ∃ z, z = h1.size := ⟨_, rfl⟩
  rw [← g3] at A3 D3 st3
  have sz_b3 : h0.size ≤ b3 := Nat.le_trans K2.1 (Nat.le_of_eq g3.symm)
  have K4 : Keep h0 h3 [] := K2.ext E3
  have FmodCount_3 : Fld Z h3 b3 "java/util/AbstractList" "modCount" "I" (.int (0 : Int32)) := D3 (Or.inl (hw _ (List.mem_of_getElem? (i := 25) rfl))) (ty := .int) (by decide)
  have FelementData_3 : Fld Z h3 b3 "java/util/ArrayList" "elementData" "[Ljava/lang/Object;" .null := D3 (Or.inl (hw _ (List.mem_of_getElem? (i := 28) rfl))) (ty := (.array (.object "java/lang/Object"))) (by decide)
  have Fsize_3 : Fld Z h3 b3 "java/util/ArrayList" "size" "I" (.int (0 : Int32)) := D3 (Or.inl (hw _ (List.mem_of_getElem? (i := 45) rfl))) (ty := .int) (by decide)
  have f5 := ((O_.ext E1).ext E3)
  obtain ⟨_, _, ⟨T6, L6, k6, n6⟩, -, X6, ⟨Lc6, hQ6, l6, y6, z6⟩, st6⟩ := X3.specialBack hx (y := (⟨"java/util/ArrayList", "<init>", "()V"⟩ : MethodName)) rfl hown (mvT hZ (hw _ (List.mem_of_getElem? (i := 6) rfl))) (mvT hZ (hw _ (List.mem_of_getElem? (i := 7) rfl))) (mvT hZ (hw _ (List.mem_of_getElem? (i := 8) rfl))) (by decide) (backOf (W := 3) (rm1 l Z a0 hw [] b3 (.null) (.int (0 : Int32)) (.int (0 : Int32)) w_DEFAULTCAPACITY_EMPTY_ELEMENTDATA h3 n0 (Nat.le_trans Z0 K4.1) FelementData_3 Fsize_3 A3 FmodCount_3 (Nat.le_trans Z0 sz_b3) S_DEFAULTCAPACITY_EMPTY_ELEMENTDATA f5) hZ (hw _ (List.mem_of_getElem? (i := 8) rfl)) (hw _ (List.mem_of_getElem? (i := 5) rfl)) (by decide) (by decide)) (g := (mkF m 43 #[.val (.int i1), .val (.int i2), .val (.int i3), .val (.int i4), .val (.int i5), .val (.int i6), .val (.int (i1 &&& (1 : Int32))), .val (.int (i3 &&& (1 : Int32))), .val (.int (i5 &&& (1 : Int32))), .val (.int (i2 &&& (63 : Int32))), .val (.int (i4 &&& (63 : Int32))), .val (.int (i6 &&& (63 : Int32))), .unset, .unset, .unset, .unset, .unset] [(.ref b3), (.ref b3), (.ref b1), (.ref b1)])) rfl (by rw [hml]; rfl) (Steps.refl _) (a := b3) (argsL := []) (rest := [(.ref b3), (.ref b1), (.ref b1)]) (lenOf pd_0 rfl) rfl (by show 2 * 0 + _ ≤ _; exact Nat.le_of_eq rfl) (hb hby at_43) (fun _ _ => ⟨rfl, e3, (by decide : 2 + 0 ≤ _), (by decide : 8 + 0 ≤ _)⟩)
  dsimp only [Pt.U, Pt.locs, Pt.cells, Pt.slots] at X6 l6 y6 z6 st6 hQ6
  subst l6 y6 z6
  obtain ⟨rfl, Nq6, Kq6, f6_0, f6_1, f6_2, f6_3⟩ := hQ6
  have K7 : Keep h0 T6.heap [] := K4.trans Kq6 (allS (Or.inr sz_b3) all0)
  have N6 := Fr.app N0 Nq6
  have f8 := ((Fcount_1.ext E3).keep Kq6 (ninS (Nat.ne_of_lt (Nat.lt_of_lt_of_le A1.lt (Nat.le_trans (Nat.le_refl _) (Nat.le_of_eq g3.symm)))) nin0))
  have f9 := ((A1.ext E3).keep Kq6)
  have f10 := ((Fneighbours_1.ext E3).keep Kq6 (ninS (Nat.ne_of_lt (Nat.lt_of_lt_of_le A1.lt (Nat.le_trans (Nat.le_refl _) (Nat.le_of_eq g3.symm)))) nin0))
  have f11 := ((Fwords_1.ext E3).keep Kq6 (ninS (Nat.ne_of_lt (Nat.lt_of_lt_of_le A1.lt (Nat.le_trans (Nat.le_refl _) (Nat.le_of_eq g3.symm)))) nin0))
  have f12 := ((Fseqs_1.ext E3).keep Kq6 (ninS (Nat.ne_of_lt (Nat.lt_of_lt_of_le A1.lt (Nat.le_trans (Nat.le_refl _) (Nat.le_of_eq g3.symm)))) nin0))
  have f13 := ((Fbits_1.ext E3).keep Kq6 (ninS (Nat.ne_of_lt (Nat.lt_of_lt_of_le A1.lt (Nat.le_trans (Nat.le_refl _) (Nat.le_of_eq g3.symm)))) nin0))
  obtain ⟨_, _, ⟨T14, L14, k14, n14⟩, -, X14, ⟨Lc14, hQ14, l14, y14, z14⟩, st14⟩ := X6.specialBack hx (y := (⟨"com/example/fairmesh/fairmesh/node/AskedChunks", "<init>", "(Ljava/util/List;I)V"⟩ : MethodName)) rfl hown (mvT hZ (hw _ (List.mem_of_getElem? (i := 29) rfl))) (mvT hZ (hw _ (List.mem_of_getElem? (i := 30) rfl))) (mvT hZ (hw _ (List.mem_of_getElem? (i := 31) rfl))) (by decide) (backOf (W := 1) (rm5 l Z a0 hw [] b1 b3 (.int (0 : Int32)) (.null) (.int (0 : Int32)) (.null) (.null) T6.heap n0 (Nat.le_trans Z0 K7.1) f8 f9 f10 (Nat.le_trans Z0 sz_b1) f6_3 (Ne.symm (Nat.ne_of_lt (Nat.lt_of_lt_of_le A1.lt (Nat.le_trans (Nat.le_refl _) (Nat.le_of_eq g3.symm))))) f6_0 f11 f12 f13) hZ (hw _ (List.mem_of_getElem? (i := 31) rfl)) (hw _ (List.mem_of_getElem? (i := 2) rfl)) (by decide) (by decide)) (g := (mkF m 47 #[.val (.int i1), .val (.int i2), .val (.int i3), .val (.int i4), .val (.int i5), .val (.int i6), .val (.int (i1 &&& (1 : Int32))), .val (.int (i3 &&& (1 : Int32))), .val (.int (i5 &&& (1 : Int32))), .val (.int (i2 &&& (63 : Int32))), .val (.int (i4 &&& (63 : Int32))), .val (.int (i6 &&& (63 : Int32))), .unset, .unset, .unset, .unset, .unset] [(.int (2 : Int32)), (.ref b3), (.ref b1), (.ref b1)])) rfl (by rw [hml]; rfl) (Steps.refl _) (a := b1) (argsL := [(.ref b3), (.int (2 : Int32))]) (rest := [(.ref b1)]) (lenOf pd_4 rfl) rfl (by show 2 * 0 + _ ≤ _; exact Nat.le_of_eq rfl) (hb hby at_47) (fun _ _ => ⟨rfl, rfl, (by decide : 2 + 2 ≤ _), (by decide : 8 + 4 ≤ _)⟩)
  dsimp only [Pt.U, Pt.locs, Pt.cells, Pt.slots] at X14 l14 y14 z14 st14 hQ14
  subst l14 y14 z14
  obtain ⟨b14_0, k14_1, b14_2, k14_3, rfl, Nq14, Kq14, sq14_0, sq14_2, f14_0, f14_1, f14_2, f14_3, f14_4, f14_5, f14_6, f14_7, f14_8⟩ := hQ14
  have sz_b14_0 : h0.size ≤ b14_0 := Nat.le_trans K7.1 sq14_0
  have sz_b14_2 : h0.size ≤ b14_2 := Nat.le_trans K7.1 sq14_2
  have K15 : Keep h0 T14.heap [] := K7.trans Kq14 (allS (Or.inr sz_b1) all0)
  have N14 := Fr.app N6 Nq14
  obtain ⟨cq16, kq16, q16a, q16b, q16c⟩ := isOf hZ rfl f14_0
  obtain ⟨_, _, ⟨T16, L16, k16, n16⟩, -, X16, ⟨Lc16, hQ16, l16, y16, z16⟩, st16⟩ := X14.virtualBack hx (y := (⟨"com/example/fairmesh/fairmesh/node/AskedChunks", "ask", "(II)V"⟩ : MethodName)) (z := (⟨"com/example/fairmesh/fairmesh/node/AskedChunks", "ask", "(II)V"⟩ : MethodName)) hown (mvT hZ (hw _ (List.mem_of_getElem? (i := 60) rfl))) (mvT hZ (hw _ (List.mem_of_getElem? (i := 61) rfl))) (notFace_of_selects (args := #[]) (mvT hZ (hw _ (List.mem_of_getElem? (i := 63) rfl)))) (mvT hZ (hw _ (List.mem_of_getElem? (i := 63) rfl))) (mvT hZ (hw _ (List.mem_of_getElem? (i := 62) rfl))) (by decide) (backOf (W := 0) (rm9 l Z a0 hw [] b1 (i1 &&& (1 : Int32)) (i2 &&& (63 : Int32)) b14_2 (1 : Int32) (0 : Int64) (0 : Int64) k14_3 T14.heap n0 (Nat.le_trans Z0 K15.1) f14_6 f14_2 (own_ob0_g58_2 i1 i2) f14_5 (Nat.le_trans Z0 sz_b14_2)) hZ (hw _ (List.mem_of_getElem? (i := 64) rfl)) (hw _ (List.mem_of_getElem? (i := 2) rfl)) (by decide) (by decide)) q16a q16c (g := (mkF m 58 #[.val (.int i1), .val (.int i2), .val (.int i3), .val (.int i4), .val (.int i5), .val (.int i6), .val (.int (i1 &&& (1 : Int32))), .val (.int (i3 &&& (1 : Int32))), .val (.int (i5 &&& (1 : Int32))), .val (.int (i2 &&& (63 : Int32))), .val (.int (i4 &&& (63 : Int32))), .val (.int (i6 &&& (63 : Int32))), .val (.ref b1), .unset, .unset, .unset, .unset] [(.int (i2 &&& (63 : Int32))), (.int (i1 &&& (1 : Int32))), (.ref b1)])) rfl (by rw [hml]; rfl) (Steps.refl _) (argsL := [(.int (i1 &&& (1 : Int32))), (.int (i2 &&& (63 : Int32)))]) (rest := []) (lenOf pd_5 rfl) rfl (by show 2 * 0 + _ ≤ _; exact Nat.le_of_eq rfl) (hb hby at_58) (fun _ _ => ⟨rfl, rfl, (by decide : 4 + 0 ≤ _), (by decide : 12 + 0 ≤ _)⟩)
  dsimp only [Pt.U, Pt.locs, Pt.cells, Pt.slots] at X16 l16 y16 z16 st16 hQ16
  subst l16 y16 z16
  obtain ⟨rfl, Nq16, Kq16, f16_0⟩ := hQ16
  have K17 : Keep h0 T16.heap [] := K15.trans Kq16 (allS (Or.inr sz_b14_2) all0)
  have N16 := Fr.app N14 Nq16
  have f18 := (f14_6.keep Kq16 (ninS (Nat.ne_of_lt (Nat.lt_of_lt_of_le A1.lt (Nat.le_trans (Nat.le_trans E3.1 Kq6.1) sq14_2))) nin0))
  have f19 := (f14_2.keep Kq16 (ninS (Nat.ne_of_lt (Nat.lt_of_lt_of_le A1.lt (Nat.le_trans (Nat.le_trans E3.1 Kq6.1) sq14_2))) nin0))
  have f21 := (f14_0.keep Kq16)
  obtain ⟨cq20, kq20, q20a, q20b, q20c⟩ := isOf hZ rfl f21
  obtain ⟨_, _, ⟨T20, L20, k20, n20⟩, -, X20, ⟨Lc20, hQ20, l20, y20, z20⟩, st20⟩ := X16.virtualBack hx (y := (⟨"com/example/fairmesh/fairmesh/node/AskedChunks", "ask", "(II)V"⟩ : MethodName)) (z := (⟨"com/example/fairmesh/fairmesh/node/AskedChunks", "ask", "(II)V"⟩ : MethodName)) hown (mvT hZ (hw _ (List.mem_of_getElem? (i := 60) rfl))) (mvT hZ (hw _ (List.mem_of_getElem? (i := 61) rfl))) (notFace_of_selects (args := #[]) (mvT hZ (hw _ (List.mem_of_getElem? (i := 63) rfl)))) (mvT hZ (hw _ (List.mem_of_getElem? (i := 63) rfl))) (mvT hZ (hw _ (List.mem_of_getElem? (i := 62) rfl))) (by decide) (backOf (W := 0) (rm9 l Z a0 hw [] b1 (i3 &&& (1 : Int32)) (i4 &&& (63 : Int32)) b14_2 (1 : Int32) (own_v9_w_bits_r0_0 (i1 &&& (1 : Int32)) (i2 &&& (63 : Int32)) (1 : Int32) (0 : Int64)) (own_v9_w_bits_r0_1 (i1 &&& (1 : Int32)) (i2 &&& (63 : Int32)) (1 : Int32) (0 : Int64)) k14_3 T16.heap n0 (Nat.le_trans Z0 K17.1) f18 f19 (own_ob0_g67_2 i3 i4) f16_0 (Nat.le_trans Z0 sz_b14_2)) hZ (hw _ (List.mem_of_getElem? (i := 64) rfl)) (hw _ (List.mem_of_getElem? (i := 2) rfl)) (by decide) (by decide)) q20a q20c (g := (mkF m 67 #[.val (.int i1), .val (.int i2), .val (.int i3), .val (.int i4), .val (.int i5), .val (.int i6), .val (.int (i1 &&& (1 : Int32))), .val (.int (i3 &&& (1 : Int32))), .val (.int (i5 &&& (1 : Int32))), .val (.int (i2 &&& (63 : Int32))), .val (.int (i4 &&& (63 : Int32))), .val (.int (i6 &&& (63 : Int32))), .val (.ref b1), .unset, .unset, .unset, .unset] [(.int (i4 &&& (63 : Int32))), (.int (i3 &&& (1 : Int32))), (.ref b1)])) rfl (by rw [hml]; rfl) (Steps.refl _) (argsL := [(.int (i3 &&& (1 : Int32))), (.int (i4 &&& (63 : Int32)))]) (rest := []) (lenOf pd_5 rfl) rfl (by show 2 * 0 + _ ≤ _; exact Nat.le_of_eq rfl) (hb hby at_67) (fun _ _ => ⟨rfl, rfl, (by decide : 4 + 0 ≤ _), (by decide : 12 + 0 ≤ _)⟩)
  dsimp only [Pt.U, Pt.locs, Pt.cells, Pt.slots] at X20 l20 y20 z20 st20 hQ20
  subst l20 y20 z20
  obtain ⟨rfl, Nq20, Kq20, f20_0⟩ := hQ20
  have K22 : Keep h0 T20.heap [] := K17.trans Kq20 (allS (Or.inr sz_b14_2) all0)
  have N20 := Fr.app N16 Nq20
  have f23 := (f18.keep Kq20 (ninS (Nat.ne_of_lt (Nat.lt_of_lt_of_le A1.lt (Nat.le_trans (Nat.le_trans E3.1 Kq6.1) sq14_2))) nin0))
  have f24 := (f19.keep Kq20 (ninS (Nat.ne_of_lt (Nat.lt_of_lt_of_le A1.lt (Nat.le_trans (Nat.le_trans E3.1 Kq6.1) sq14_2))) nin0))
  have f26 := (f21.keep Kq20)
  obtain ⟨cq25, kq25, q25a, q25b, q25c⟩ := isOf hZ rfl f26
  obtain ⟨_, _, ⟨T25, L25, k25, n25⟩, -, X25, ⟨Lc25, hQ25, l25, y25, z25⟩, st25⟩ := X20.virtualBack hx (y := (⟨"com/example/fairmesh/fairmesh/node/AskedChunks", "ask", "(II)V"⟩ : MethodName)) (z := (⟨"com/example/fairmesh/fairmesh/node/AskedChunks", "ask", "(II)V"⟩ : MethodName)) hown (mvT hZ (hw _ (List.mem_of_getElem? (i := 60) rfl))) (mvT hZ (hw _ (List.mem_of_getElem? (i := 61) rfl))) (notFace_of_selects (args := #[]) (mvT hZ (hw _ (List.mem_of_getElem? (i := 63) rfl)))) (mvT hZ (hw _ (List.mem_of_getElem? (i := 63) rfl))) (mvT hZ (hw _ (List.mem_of_getElem? (i := 62) rfl))) (by decide) (backOf (W := 0) (rm9 l Z a0 hw [] b1 (i5 &&& (1 : Int32)) (i6 &&& (63 : Int32)) b14_2 (1 : Int32) (own_v9_w_bits_r0_0 (i3 &&& (1 : Int32)) (i4 &&& (63 : Int32)) (1 : Int32) (own_v9_w_bits_r0_0 (i1 &&& (1 : Int32)) (i2 &&& (63 : Int32)) (1 : Int32) (0 : Int64))) (own_v9_w_bits_r0_1 (i3 &&& (1 : Int32)) (i4 &&& (63 : Int32)) (1 : Int32) (own_v9_w_bits_r0_1 (i1 &&& (1 : Int32)) (i2 &&& (63 : Int32)) (1 : Int32) (0 : Int64))) k14_3 T20.heap n0 (Nat.le_trans Z0 K22.1) f23 f24 (own_ob0_g76_2 i5 i6) f20_0 (Nat.le_trans Z0 sz_b14_2)) hZ (hw _ (List.mem_of_getElem? (i := 64) rfl)) (hw _ (List.mem_of_getElem? (i := 2) rfl)) (by decide) (by decide)) q25a q25c (g := (mkF m 76 #[.val (.int i1), .val (.int i2), .val (.int i3), .val (.int i4), .val (.int i5), .val (.int i6), .val (.int (i1 &&& (1 : Int32))), .val (.int (i3 &&& (1 : Int32))), .val (.int (i5 &&& (1 : Int32))), .val (.int (i2 &&& (63 : Int32))), .val (.int (i4 &&& (63 : Int32))), .val (.int (i6 &&& (63 : Int32))), .val (.ref b1), .unset, .unset, .unset, .unset] [(.int (i6 &&& (63 : Int32))), (.int (i5 &&& (1 : Int32))), (.ref b1)])) rfl (by rw [hml]; rfl) (Steps.refl _) (argsL := [(.int (i5 &&& (1 : Int32))), (.int (i6 &&& (63 : Int32)))]) (rest := []) (lenOf pd_5 rfl) rfl (by show 2 * 0 + _ ≤ _; exact Nat.le_of_eq rfl) (hb hby at_76) (fun _ _ => ⟨rfl, rfl, (by decide : 4 + 0 ≤ _), (by decide : 12 + 0 ≤ _)⟩)
  dsimp only [Pt.U, Pt.locs, Pt.cells, Pt.slots] at X25 l25 y25 z25 st25 hQ25
  subst l25 y25 z25
  obtain ⟨rfl, Nq25, Kq25, f25_0⟩ := hQ25
  have K27 : Keep h0 T25.heap [] := K22.trans Kq25 (allS (Or.inr sz_b14_2) all0)
  have N25 := Fr.app N20 Nq25
  obtain ⟨_, _, ⟨T28, L28, k28, n28⟩, -, X28, ⟨Lc28, hQ28, l28, y28, z28⟩, st28⟩ := Jvm.LawKit.callS X25 hx (y := (⟨"com/example/fairmesh/fairmesh/node/AskedChunksAskPinLaw", "bit", "(III)J"⟩ : MethodName)) hown (mvT hZ (hw _ (List.mem_of_getElem? (i := 65) rfl))) (mvT hZ (hw _ (List.mem_of_getElem? (i := 66) rfl))) (mvT hZ (hw _ (List.mem_of_getElem? (i := 67) rfl))) (mvT hZ (hw _ (List.mem_of_getElem? (i := 68) rfl))) (by decide) (backOf (W := 0) (rm10 l Z a0 hw [] (i1 &&& (1 : Int32)) (0 : Int32) (i2 &&& (63 : Int32)) T25.heap n0 (Nat.le_trans Z0 K27.1) ) hZ (hw _ (List.mem_of_getElem? (i := 68) rfl)) (hw _ (List.mem_of_getElem? (i := 67) rfl)) (by decide) (by decide)) (g := (mkF m 84 #[.val (.int i1), .val (.int i2), .val (.int i3), .val (.int i4), .val (.int i5), .val (.int i6), .val (.int (i1 &&& (1 : Int32))), .val (.int (i3 &&& (1 : Int32))), .val (.int (i5 &&& (1 : Int32))), .val (.int (i2 &&& (63 : Int32))), .val (.int (i4 &&& (63 : Int32))), .val (.int (i6 &&& (63 : Int32))), .val (.ref b1), .unset, .unset, .unset, .unset] [(.int (i2 &&& (63 : Int32))), (.int (0 : Int32)), (.int (i1 &&& (1 : Int32)))])) rfl (by rw [hml]; rfl) (argsL := [(.int (i1 &&& (1 : Int32))), (.int (0 : Int32)), (.int (i2 &&& (63 : Int32)))]) (rest := []) (lenOf pd_6 rfl) rfl (by show 2 * 0 + _ ≤ _; exact Nat.le_of_eq rfl) (hb hby at_84) (fun _ _ => ⟨rfl, rfl, (by decide : 4 + 0 ≤ _), (by decide : 12 + 0 ≤ _)⟩)
  dsimp only [Pt.U, Pt.locs, Pt.cells, Pt.slots] at X28 l28 y28 z28 st28 hQ28
  subst l28 y28 z28
  obtain ⟨rfl, Nq28, e28⟩ := hQ28
  have N28 := Fr.app N25 Nq28
  obtain ⟨_, _, ⟨T29, L29, k29, n29⟩, -, X29, ⟨Lc29, hQ29, l29, y29, z29⟩, st29⟩ := Jvm.LawKit.callS X28 hx (y := (⟨"com/example/fairmesh/fairmesh/node/AskedChunksAskPinLaw", "bit", "(III)J"⟩ : MethodName)) hown (mvT hZ (hw _ (List.mem_of_getElem? (i := 65) rfl))) (mvT hZ (hw _ (List.mem_of_getElem? (i := 66) rfl))) (mvT hZ (hw _ (List.mem_of_getElem? (i := 67) rfl))) (mvT hZ (hw _ (List.mem_of_getElem? (i := 68) rfl))) (by decide) (backOf (W := 2) (rm10 l Z a0 hw [] (i3 &&& (1 : Int32)) (0 : Int32) (i4 &&& (63 : Int32)) T25.heap n0 (Nat.le_trans Z0 K27.1) ) hZ (hw _ (List.mem_of_getElem? (i := 68) rfl)) (hw _ (List.mem_of_getElem? (i := 67) rfl)) (by decide) (by decide)) (g := (mkF m 92 #[.val (.int i1), .val (.int i2), .val (.int i3), .val (.int i4), .val (.int i5), .val (.int i6), .val (.int (i1 &&& (1 : Int32))), .val (.int (i3 &&& (1 : Int32))), .val (.int (i5 &&& (1 : Int32))), .val (.int (i2 &&& (63 : Int32))), .val (.int (i4 &&& (63 : Int32))), .val (.int (i6 &&& (63 : Int32))), .val (.ref b1), .unset, .unset, .unset, .unset] [(.int (i4 &&& (63 : Int32))), (.int (0 : Int32)), (.int (i3 &&& (1 : Int32))), (.long (own_r10 (i1 &&& (1 : Int32)) (0 : Int32) (i2 &&& (63 : Int32))))])) rfl (by rw [hml]; rfl) (argsL := [(.int (i3 &&& (1 : Int32))), (.int (0 : Int32)), (.int (i4 &&& (63 : Int32)))]) (rest := [(.long (own_r10 (i1 &&& (1 : Int32)) (0 : Int32) (i2 &&& (63 : Int32))))]) (lenOf pd_6 rfl) rfl (by show 2 * 0 + _ ≤ _; exact Nat.le_of_eq rfl) (hb hby at_92) (fun _ _ => ⟨rfl, e28, (by decide : 4 + 0 ≤ _), (by decide : 12 + 0 ≤ _)⟩)
  dsimp only [Pt.U, Pt.locs, Pt.cells, Pt.slots] at X29 l29 y29 z29 st29 hQ29
  subst l29 y29 z29
  obtain ⟨rfl, Nq29, e29⟩ := hQ29
  have N29 := Fr.app N28 Nq29
  obtain ⟨_, _, ⟨T30, L30, k30, n30⟩, -, X30, ⟨Lc30, hQ30, l30, y30, z30⟩, st30⟩ := Jvm.LawKit.callS X29 hx (y := (⟨"com/example/fairmesh/fairmesh/node/AskedChunksAskPinLaw", "bit", "(III)J"⟩ : MethodName)) hown (mvT hZ (hw _ (List.mem_of_getElem? (i := 65) rfl))) (mvT hZ (hw _ (List.mem_of_getElem? (i := 66) rfl))) (mvT hZ (hw _ (List.mem_of_getElem? (i := 67) rfl))) (mvT hZ (hw _ (List.mem_of_getElem? (i := 68) rfl))) (by decide) (backOf (W := 2) (rm10 l Z a0 hw [] (i5 &&& (1 : Int32)) (0 : Int32) (i6 &&& (63 : Int32)) T25.heap n0 (Nat.le_trans Z0 K27.1) ) hZ (hw _ (List.mem_of_getElem? (i := 68) rfl)) (hw _ (List.mem_of_getElem? (i := 67) rfl)) (by decide) (by decide)) (g := (mkF m 101 #[.val (.int i1), .val (.int i2), .val (.int i3), .val (.int i4), .val (.int i5), .val (.int i6), .val (.int (i1 &&& (1 : Int32))), .val (.int (i3 &&& (1 : Int32))), .val (.int (i5 &&& (1 : Int32))), .val (.int (i2 &&& (63 : Int32))), .val (.int (i4 &&& (63 : Int32))), .val (.int (i6 &&& (63 : Int32))), .val (.ref b1), .unset, .unset, .unset, .unset] [(.int (i6 &&& (63 : Int32))), (.int (0 : Int32)), (.int (i5 &&& (1 : Int32))), (.long ((own_r10 (i1 &&& (1 : Int32)) (0 : Int32) (i2 &&& (63 : Int32))) ||| (own_r10 (i3 &&& (1 : Int32)) (0 : Int32) (i4 &&& (63 : Int32)))))])) rfl (by rw [hml]; rfl) (argsL := [(.int (i5 &&& (1 : Int32))), (.int (0 : Int32)), (.int (i6 &&& (63 : Int32)))]) (rest := [(.long ((own_r10 (i1 &&& (1 : Int32)) (0 : Int32) (i2 &&& (63 : Int32))) ||| (own_r10 (i3 &&& (1 : Int32)) (0 : Int32) (i4 &&& (63 : Int32)))))]) (lenOf pd_6 rfl) rfl (by show 2 * 0 + _ ≤ _; exact Nat.le_of_eq rfl) (hb hby at_101) (fun _ _ => ⟨rfl, e29, (by decide : 4 + 0 ≤ _), (by decide : 12 + 0 ≤ _)⟩)
  dsimp only [Pt.U, Pt.locs, Pt.cells, Pt.slots] at X30 l30 y30 z30 st30 hQ30
  subst l30 y30 z30
  obtain ⟨rfl, Nq30, e30⟩ := hQ30
  have N30 := Fr.app N29 Nq30
  obtain ⟨_, _, ⟨T31, L31, k31, n31⟩, -, X31, ⟨Lc31, hQ31, l31, y31, z31⟩, st31⟩ := Jvm.LawKit.callS X30 hx (y := (⟨"com/example/fairmesh/fairmesh/node/AskedChunksAskPinLaw", "bit", "(III)J"⟩ : MethodName)) hown (mvT hZ (hw _ (List.mem_of_getElem? (i := 65) rfl))) (mvT hZ (hw _ (List.mem_of_getElem? (i := 66) rfl))) (mvT hZ (hw _ (List.mem_of_getElem? (i := 67) rfl))) (mvT hZ (hw _ (List.mem_of_getElem? (i := 68) rfl))) (by decide) (backOf (W := 0) (rm10 l Z a0 hw [] (i1 &&& (1 : Int32)) (1 : Int32) (i2 &&& (63 : Int32)) T25.heap n0 (Nat.le_trans Z0 K27.1) ) hZ (hw _ (List.mem_of_getElem? (i := 68) rfl)) (hw _ (List.mem_of_getElem? (i := 67) rfl)) (by decide) (by decide)) (g := (mkF m 112 #[.val (.int i1), .val (.int i2), .val (.int i3), .val (.int i4), .val (.int i5), .val (.int i6), .val (.int (i1 &&& (1 : Int32))), .val (.int (i3 &&& (1 : Int32))), .val (.int (i5 &&& (1 : Int32))), .val (.int (i2 &&& (63 : Int32))), .val (.int (i4 &&& (63 : Int32))), .val (.int (i6 &&& (63 : Int32))), .val (.ref b1), .val (.long (((own_r10 (i1 &&& (1 : Int32)) (0 : Int32) (i2 &&& (63 : Int32))) ||| (own_r10 (i3 &&& (1 : Int32)) (0 : Int32) (i4 &&& (63 : Int32)))) ||| (own_r10 (i5 &&& (1 : Int32)) (0 : Int32) (i6 &&& (63 : Int32))))), .second, .unset, .unset] [(.int (i2 &&& (63 : Int32))), (.int (1 : Int32)), (.int (i1 &&& (1 : Int32)))])) rfl (by rw [hml]; rfl) (argsL := [(.int (i1 &&& (1 : Int32))), (.int (1 : Int32)), (.int (i2 &&& (63 : Int32)))]) (rest := []) (lenOf pd_6 rfl) rfl (by show 2 * 0 + _ ≤ _; exact Nat.le_of_eq rfl) (hb hby at_112) (fun _ _ => ⟨rfl, e30, (by decide : 4 + 0 ≤ _), (by decide : 12 + 0 ≤ _)⟩)
  dsimp only [Pt.U, Pt.locs, Pt.cells, Pt.slots] at X31 l31 y31 z31 st31 hQ31
  subst l31 y31 z31
  obtain ⟨rfl, Nq31, e31⟩ := hQ31
  have N31 := Fr.app N30 Nq31
  obtain ⟨_, _, ⟨T32, L32, k32, n32⟩, -, X32, ⟨Lc32, hQ32, l32, y32, z32⟩, st32⟩ := Jvm.LawKit.callS X31 hx (y := (⟨"com/example/fairmesh/fairmesh/node/AskedChunksAskPinLaw", "bit", "(III)J"⟩ : MethodName)) hown (mvT hZ (hw _ (List.mem_of_getElem? (i := 65) rfl))) (mvT hZ (hw _ (List.mem_of_getElem? (i := 66) rfl))) (mvT hZ (hw _ (List.mem_of_getElem? (i := 67) rfl))) (mvT hZ (hw _ (List.mem_of_getElem? (i := 68) rfl))) (by decide) (backOf (W := 2) (rm10 l Z a0 hw [] (i3 &&& (1 : Int32)) (1 : Int32) (i4 &&& (63 : Int32)) T25.heap n0 (Nat.le_trans Z0 K27.1) ) hZ (hw _ (List.mem_of_getElem? (i := 68) rfl)) (hw _ (List.mem_of_getElem? (i := 67) rfl)) (by decide) (by decide)) (g := (mkF m 120 #[.val (.int i1), .val (.int i2), .val (.int i3), .val (.int i4), .val (.int i5), .val (.int i6), .val (.int (i1 &&& (1 : Int32))), .val (.int (i3 &&& (1 : Int32))), .val (.int (i5 &&& (1 : Int32))), .val (.int (i2 &&& (63 : Int32))), .val (.int (i4 &&& (63 : Int32))), .val (.int (i6 &&& (63 : Int32))), .val (.ref b1), .val (.long (((own_r10 (i1 &&& (1 : Int32)) (0 : Int32) (i2 &&& (63 : Int32))) ||| (own_r10 (i3 &&& (1 : Int32)) (0 : Int32) (i4 &&& (63 : Int32)))) ||| (own_r10 (i5 &&& (1 : Int32)) (0 : Int32) (i6 &&& (63 : Int32))))), .second, .unset, .unset] [(.int (i4 &&& (63 : Int32))), (.int (1 : Int32)), (.int (i3 &&& (1 : Int32))), (.long (own_r10 (i1 &&& (1 : Int32)) (1 : Int32) (i2 &&& (63 : Int32))))])) rfl (by rw [hml]; rfl) (argsL := [(.int (i3 &&& (1 : Int32))), (.int (1 : Int32)), (.int (i4 &&& (63 : Int32)))]) (rest := [(.long (own_r10 (i1 &&& (1 : Int32)) (1 : Int32) (i2 &&& (63 : Int32))))]) (lenOf pd_6 rfl) rfl (by show 2 * 0 + _ ≤ _; exact Nat.le_of_eq rfl) (hb hby at_120) (fun _ _ => ⟨rfl, e31, (by decide : 4 + 0 ≤ _), (by decide : 12 + 0 ≤ _)⟩)
  dsimp only [Pt.U, Pt.locs, Pt.cells, Pt.slots] at X32 l32 y32 z32 st32 hQ32
  subst l32 y32 z32
  obtain ⟨rfl, Nq32, e32⟩ := hQ32
  have N32 := Fr.app N31 Nq32
  obtain ⟨_, _, ⟨T33, L33, k33, n33⟩, -, X33, ⟨Lc33, hQ33, l33, y33, z33⟩, st33⟩ := Jvm.LawKit.callS X32 hx (y := (⟨"com/example/fairmesh/fairmesh/node/AskedChunksAskPinLaw", "bit", "(III)J"⟩ : MethodName)) hown (mvT hZ (hw _ (List.mem_of_getElem? (i := 65) rfl))) (mvT hZ (hw _ (List.mem_of_getElem? (i := 66) rfl))) (mvT hZ (hw _ (List.mem_of_getElem? (i := 67) rfl))) (mvT hZ (hw _ (List.mem_of_getElem? (i := 68) rfl))) (by decide) (backOf (W := 2) (rm10 l Z a0 hw [] (i5 &&& (1 : Int32)) (1 : Int32) (i6 &&& (63 : Int32)) T25.heap n0 (Nat.le_trans Z0 K27.1) ) hZ (hw _ (List.mem_of_getElem? (i := 68) rfl)) (hw _ (List.mem_of_getElem? (i := 67) rfl)) (by decide) (by decide)) (g := (mkF m 129 #[.val (.int i1), .val (.int i2), .val (.int i3), .val (.int i4), .val (.int i5), .val (.int i6), .val (.int (i1 &&& (1 : Int32))), .val (.int (i3 &&& (1 : Int32))), .val (.int (i5 &&& (1 : Int32))), .val (.int (i2 &&& (63 : Int32))), .val (.int (i4 &&& (63 : Int32))), .val (.int (i6 &&& (63 : Int32))), .val (.ref b1), .val (.long (((own_r10 (i1 &&& (1 : Int32)) (0 : Int32) (i2 &&& (63 : Int32))) ||| (own_r10 (i3 &&& (1 : Int32)) (0 : Int32) (i4 &&& (63 : Int32)))) ||| (own_r10 (i5 &&& (1 : Int32)) (0 : Int32) (i6 &&& (63 : Int32))))), .second, .unset, .unset] [(.int (i6 &&& (63 : Int32))), (.int (1 : Int32)), (.int (i5 &&& (1 : Int32))), (.long ((own_r10 (i1 &&& (1 : Int32)) (1 : Int32) (i2 &&& (63 : Int32))) ||| (own_r10 (i3 &&& (1 : Int32)) (1 : Int32) (i4 &&& (63 : Int32)))))])) rfl (by rw [hml]; rfl) (argsL := [(.int (i5 &&& (1 : Int32))), (.int (1 : Int32)), (.int (i6 &&& (63 : Int32)))]) (rest := [(.long ((own_r10 (i1 &&& (1 : Int32)) (1 : Int32) (i2 &&& (63 : Int32))) ||| (own_r10 (i3 &&& (1 : Int32)) (1 : Int32) (i4 &&& (63 : Int32)))))]) (lenOf pd_6 rfl) rfl (by show 2 * 0 + _ ≤ _; exact Nat.le_of_eq rfl) (hb hby at_129) (fun _ _ => ⟨rfl, e32, (by decide : 4 + 0 ≤ _), (by decide : 12 + 0 ≤ _)⟩)
  dsimp only [Pt.U, Pt.locs, Pt.cells, Pt.slots] at X33 l33 y33 z33 st33 hQ33
  subst l33 y33 z33
  obtain ⟨rfl, Nq33, e33⟩ := hQ33
  have N33 := Fr.app N32 Nq33
  have f34 := (f23.keep Kq25 (ninS (Nat.ne_of_lt (Nat.lt_of_lt_of_le A1.lt (Nat.le_trans (Nat.le_trans E3.1 Kq6.1) sq14_2))) nin0))
  have f35 := (f24.keep Kq25 (ninS (Nat.ne_of_lt (Nat.lt_of_lt_of_le A1.lt (Nat.le_trans (Nat.le_trans E3.1 Kq6.1) sq14_2))) nin0))
  have f37 := (f26.keep Kq25)
  obtain ⟨cq36, kq36, q36a, q36b, q36c⟩ := isOf hZ e33 f37
  obtain ⟨_, _, ⟨T36, L36, k36, n36⟩, -, X36, ⟨Lc36, hQ36, l36, y36, z36⟩, st36⟩ := X33.virtualBack hx (y := (⟨"com/example/fairmesh/fairmesh/node/AskedChunks", "word", "(II)J"⟩ : MethodName)) (z := (⟨"com/example/fairmesh/fairmesh/node/AskedChunks", "word", "(II)J"⟩ : MethodName)) hown (mvT hZ (hw _ (List.mem_of_getElem? (i := 69) rfl))) (mvT hZ (hw _ (List.mem_of_getElem? (i := 70) rfl))) (notFace_of_selects (args := #[]) (mvT hZ (hw _ (List.mem_of_getElem? (i := 72) rfl)))) (mvT hZ (hw _ (List.mem_of_getElem? (i := 72) rfl))) (mvT hZ (hw _ (List.mem_of_getElem? (i := 71) rfl))) (by decide) (backOf (W := 0) (rm11 l Z a0 hw [] b1 b14_2 (own_v9_w_bits_r0_0 (i5 &&& (1 : Int32)) (i6 &&& (63 : Int32)) (1 : Int32) (own_v9_w_bits_r0_0 (i3 &&& (1 : Int32)) (i4 &&& (63 : Int32)) (1 : Int32) (own_v9_w_bits_r0_0 (i1 &&& (1 : Int32)) (i2 &&& (63 : Int32)) (1 : Int32) (0 : Int64)))) (own_v9_w_bits_r0_1 (i5 &&& (1 : Int32)) (i6 &&& (63 : Int32)) (1 : Int32) (own_v9_w_bits_r0_1 (i3 &&& (1 : Int32)) (i4 &&& (63 : Int32)) (1 : Int32) (own_v9_w_bits_r0_1 (i1 &&& (1 : Int32)) (i2 &&& (63 : Int32)) (1 : Int32) (0 : Int64)))) k14_3 T25.heap n0 (Nat.le_trans Z0 K27.1) f34 f35 f25_0) hZ (hw _ (List.mem_of_getElem? (i := 73) rfl)) (hw _ (List.mem_of_getElem? (i := 2) rfl)) (by decide) (by decide)) q36a q36c (g := (mkF m 139 #[.val (.int i1), .val (.int i2), .val (.int i3), .val (.int i4), .val (.int i5), .val (.int i6), .val (.int (i1 &&& (1 : Int32))), .val (.int (i3 &&& (1 : Int32))), .val (.int (i5 &&& (1 : Int32))), .val (.int (i2 &&& (63 : Int32))), .val (.int (i4 &&& (63 : Int32))), .val (.int (i6 &&& (63 : Int32))), .val (.ref b1), .val (.long (((own_r10 (i1 &&& (1 : Int32)) (0 : Int32) (i2 &&& (63 : Int32))) ||| (own_r10 (i3 &&& (1 : Int32)) (0 : Int32) (i4 &&& (63 : Int32)))) ||| (own_r10 (i5 &&& (1 : Int32)) (0 : Int32) (i6 &&& (63 : Int32))))), .second, .val (.long (((own_r10 (i1 &&& (1 : Int32)) (1 : Int32) (i2 &&& (63 : Int32))) ||| (own_r10 (i3 &&& (1 : Int32)) (1 : Int32) (i4 &&& (63 : Int32)))) ||| (own_r10 (i5 &&& (1 : Int32)) (1 : Int32) (i6 &&& (63 : Int32))))), .second] [(.int (0 : Int32)), (.int (0 : Int32)), (.ref b1)])) rfl (by rw [hml]; rfl) (Steps.refl _) (argsL := [(.int (0 : Int32)), (.int (0 : Int32))]) (rest := []) (lenOf pd_7 rfl) rfl (by show 2 * 0 + _ ≤ _; exact Nat.le_of_eq rfl) (hb hby at_139) (fun _ _ => ⟨rfl, e33, (by decide : 4 + 0 ≤ _), (by decide : 12 + 0 ≤ _)⟩)
  dsimp only [Pt.U, Pt.locs, Pt.cells, Pt.slots] at X36 l36 y36 z36 st36 hQ36
  subst l36 y36 z36
  obtain ⟨rfl, Nq36, e36⟩ := hQ36
  have N36 := Fr.app N33 Nq36
  have pre38 : ∀ t, Steps p.tables e below (T36.setTop (mkF m 145 #[.val (.int i1), .val (.int i2), .val (.int i3), .val (.int i4), .val (.int i5), .val (.int i6), .val (.int (i1 &&& (1 : Int32))), .val (.int (i3 &&& (1 : Int32))), .val (.int (i5 &&& (1 : Int32))), .val (.int (i2 &&& (63 : Int32))), .val (.int (i4 &&& (63 : Int32))), .val (.int (i6 &&& (63 : Int32))), .val (.ref b1), .val (.long (((own_r10 (i1 &&& (1 : Int32)) (0 : Int32) (i2 &&& (63 : Int32))) ||| (own_r10 (i3 &&& (1 : Int32)) (0 : Int32) (i4 &&& (63 : Int32)))) ||| (own_r10 (i5 &&& (1 : Int32)) (0 : Int32) (i6 &&& (63 : Int32))))), .second, .val (.long (((own_r10 (i1 &&& (1 : Int32)) (1 : Int32) (i2 &&& (63 : Int32))) ||| (own_r10 (i3 &&& (1 : Int32)) (1 : Int32) (i4 &&& (63 : Int32)))) ||| (own_r10 (i5 &&& (1 : Int32)) (1 : Int32) (i6 &&& (63 : Int32))))), .second] [(.int (lcmpW (own_v9_w_bits_r0_0 (i5 &&& (1 : Int32)) (i6 &&& (63 : Int32)) (1 : Int32) (own_v9_w_bits_r0_0 (i3 &&& (1 : Int32)) (i4 &&& (63 : Int32)) (1 : Int32) (own_v9_w_bits_r0_0 (i1 &&& (1 : Int32)) (i2 &&& (63 : Int32)) (1 : Int32) (0 : Int64)))) (((own_r10 (i1 &&& (1 : Int32)) (0 : Int32) (i2 &&& (63 : Int32))) ||| (own_r10 (i3 &&& (1 : Int32)) (0 : Int32) (i4 &&& (63 : Int32)))) ||| (own_r10 (i5 &&& (1 : Int32)) (0 : Int32) (i6 &&& (63 : Int32))))))])) t → Steps p.tables e below (s₁.setTop (entryFrame m #[(.int i1), (.int i2), (.int i3), (.int i4), (.int i5), (.int i6)] maxLocals)) t := by
    intro t k
    refine pre0 _ ?_
    show Steps p.tables e below (s₁.setTop (mkF m 0 #[.val (.int i1), .val (.int i2), .val (.int i3), .val (.int i4), .val (.int i5), .val (.int i6), .unset, .unset, .unset, .unset, .unset, .unset, .unset, .unset, .unset, .unset, .unset] [])) _
    refine XS.iloadN X0.here hx rfl (hb hby at_0) rfl ?_
    show Steps p.tables e below (s₁.setTop (mkF m 1 #[.val (.int i1), .val (.int i2), .val (.int i3), .val (.int i4), .val (.int i5), .val (.int i6), .unset, .unset, .unset, .unset, .unset, .unset, .unset, .unset, .unset, .unset, .unset] [(.int i1)])) _
    refine XS.iconst X0.here hx rfl (hb hby at_1) ?_
    show Steps p.tables e below (s₁.setTop (mkF m 2 #[.val (.int i1), .val (.int i2), .val (.int i3), .val (.int i4), .val (.int i5), .val (.int i6), .unset, .unset, .unset, .unset, .unset, .unset, .unset, .unset, .unset, .unset, .unset] [(.int (1 : Int32)), (.int i1)])) _
    refine XS.iand X0.here hx rfl (hb hby at_2) rfl ?_
    show Steps p.tables e below (s₁.setTop (mkF m 3 #[.val (.int i1), .val (.int i2), .val (.int i3), .val (.int i4), .val (.int i5), .val (.int i6), .unset, .unset, .unset, .unset, .unset, .unset, .unset, .unset, .unset, .unset, .unset] [(.int (i1 &&& (1 : Int32)))])) _
    refine XS.istore X0.here hx rfl (hb hby at_3) rfl (l' := #[.val (.int i1), .val (.int i2), .val (.int i3), .val (.int i4), .val (.int i5), .val (.int i6), .val (.int (i1 &&& (1 : Int32))), .unset, .unset, .unset, .unset, .unset, .unset, .unset, .unset, .unset, .unset]) rfl ?_
    show Steps p.tables e below (s₁.setTop (mkF m 5 #[.val (.int i1), .val (.int i2), .val (.int i3), .val (.int i4), .val (.int i5), .val (.int i6), .val (.int (i1 &&& (1 : Int32))), .unset, .unset, .unset, .unset, .unset, .unset, .unset, .unset, .unset, .unset] [])) _
    refine XS.iloadN X0.here hx rfl (hb hby at_5) rfl ?_
    show Steps p.tables e below (s₁.setTop (mkF m 6 #[.val (.int i1), .val (.int i2), .val (.int i3), .val (.int i4), .val (.int i5), .val (.int i6), .val (.int (i1 &&& (1 : Int32))), .unset, .unset, .unset, .unset, .unset, .unset, .unset, .unset, .unset, .unset] [(.int i3)])) _
    refine XS.iconst X0.here hx rfl (hb hby at_6) ?_
    show Steps p.tables e below (s₁.setTop (mkF m 7 #[.val (.int i1), .val (.int i2), .val (.int i3), .val (.int i4), .val (.int i5), .val (.int i6), .val (.int (i1 &&& (1 : Int32))), .unset, .unset, .unset, .unset, .unset, .unset, .unset, .unset, .unset, .unset] [(.int (1 : Int32)), (.int i3)])) _
    refine XS.iand X0.here hx rfl (hb hby at_7) rfl ?_
    show Steps p.tables e below (s₁.setTop (mkF m 8 #[.val (.int i1), .val (.int i2), .val (.int i3), .val (.int i4), .val (.int i5), .val (.int i6), .val (.int (i1 &&& (1 : Int32))), .unset, .unset, .unset, .unset, .unset, .unset, .unset, .unset, .unset, .unset] [(.int (i3 &&& (1 : Int32)))])) _
    refine XS.istore X0.here hx rfl (hb hby at_8) rfl (l' := #[.val (.int i1), .val (.int i2), .val (.int i3), .val (.int i4), .val (.int i5), .val (.int i6), .val (.int (i1 &&& (1 : Int32))), .val (.int (i3 &&& (1 : Int32))), .unset, .unset, .unset, .unset, .unset, .unset, .unset, .unset, .unset]) rfl ?_
    show Steps p.tables e below (s₁.setTop (mkF m 10 #[.val (.int i1), .val (.int i2), .val (.int i3), .val (.int i4), .val (.int i5), .val (.int i6), .val (.int (i1 &&& (1 : Int32))), .val (.int (i3 &&& (1 : Int32))), .unset, .unset, .unset, .unset, .unset, .unset, .unset, .unset, .unset] [])) _
    refine XS.iload X0.here hx rfl (hb hby at_10) rfl ?_
    show Steps p.tables e below (s₁.setTop (mkF m 12 #[.val (.int i1), .val (.int i2), .val (.int i3), .val (.int i4), .val (.int i5), .val (.int i6), .val (.int (i1 &&& (1 : Int32))), .val (.int (i3 &&& (1 : Int32))), .unset, .unset, .unset, .unset, .unset, .unset, .unset, .unset, .unset] [(.int i5)])) _
    refine XS.iconst X0.here hx rfl (hb hby at_12) ?_
    show Steps p.tables e below (s₁.setTop (mkF m 13 #[.val (.int i1), .val (.int i2), .val (.int i3), .val (.int i4), .val (.int i5), .val (.int i6), .val (.int (i1 &&& (1 : Int32))), .val (.int (i3 &&& (1 : Int32))), .unset, .unset, .unset, .unset, .unset, .unset, .unset, .unset, .unset] [(.int (1 : Int32)), (.int i5)])) _
    refine XS.iand X0.here hx rfl (hb hby at_13) rfl ?_
    show Steps p.tables e below (s₁.setTop (mkF m 14 #[.val (.int i1), .val (.int i2), .val (.int i3), .val (.int i4), .val (.int i5), .val (.int i6), .val (.int (i1 &&& (1 : Int32))), .val (.int (i3 &&& (1 : Int32))), .unset, .unset, .unset, .unset, .unset, .unset, .unset, .unset, .unset] [(.int (i5 &&& (1 : Int32)))])) _
    refine XS.istore X0.here hx rfl (hb hby at_14) rfl (l' := #[.val (.int i1), .val (.int i2), .val (.int i3), .val (.int i4), .val (.int i5), .val (.int i6), .val (.int (i1 &&& (1 : Int32))), .val (.int (i3 &&& (1 : Int32))), .val (.int (i5 &&& (1 : Int32))), .unset, .unset, .unset, .unset, .unset, .unset, .unset, .unset]) rfl ?_
    show Steps p.tables e below (s₁.setTop (mkF m 16 #[.val (.int i1), .val (.int i2), .val (.int i3), .val (.int i4), .val (.int i5), .val (.int i6), .val (.int (i1 &&& (1 : Int32))), .val (.int (i3 &&& (1 : Int32))), .val (.int (i5 &&& (1 : Int32))), .unset, .unset, .unset, .unset, .unset, .unset, .unset, .unset] [])) _
    refine XS.iloadN X0.here hx rfl (hb hby at_16) rfl ?_
    show Steps p.tables e below (s₁.setTop (mkF m 17 #[.val (.int i1), .val (.int i2), .val (.int i3), .val (.int i4), .val (.int i5), .val (.int i6), .val (.int (i1 &&& (1 : Int32))), .val (.int (i3 &&& (1 : Int32))), .val (.int (i5 &&& (1 : Int32))), .unset, .unset, .unset, .unset, .unset, .unset, .unset, .unset] [(.int i2)])) _
    refine XS.bipush X0.here hx rfl (hb hby at_17) ?_
    show Steps p.tables e below (s₁.setTop (mkF m 19 #[.val (.int i1), .val (.int i2), .val (.int i3), .val (.int i4), .val (.int i5), .val (.int i6), .val (.int (i1 &&& (1 : Int32))), .val (.int (i3 &&& (1 : Int32))), .val (.int (i5 &&& (1 : Int32))), .unset, .unset, .unset, .unset, .unset, .unset, .unset, .unset] [(.int (63 : Int32)), (.int i2)])) _
    refine XS.iand X0.here hx rfl (hb hby at_19) rfl ?_
    show Steps p.tables e below (s₁.setTop (mkF m 20 #[.val (.int i1), .val (.int i2), .val (.int i3), .val (.int i4), .val (.int i5), .val (.int i6), .val (.int (i1 &&& (1 : Int32))), .val (.int (i3 &&& (1 : Int32))), .val (.int (i5 &&& (1 : Int32))), .unset, .unset, .unset, .unset, .unset, .unset, .unset, .unset] [(.int (i2 &&& (63 : Int32)))])) _
    refine XS.istore X0.here hx rfl (hb hby at_20) rfl (l' := #[.val (.int i1), .val (.int i2), .val (.int i3), .val (.int i4), .val (.int i5), .val (.int i6), .val (.int (i1 &&& (1 : Int32))), .val (.int (i3 &&& (1 : Int32))), .val (.int (i5 &&& (1 : Int32))), .val (.int (i2 &&& (63 : Int32))), .unset, .unset, .unset, .unset, .unset, .unset, .unset]) rfl ?_
    show Steps p.tables e below (s₁.setTop (mkF m 22 #[.val (.int i1), .val (.int i2), .val (.int i3), .val (.int i4), .val (.int i5), .val (.int i6), .val (.int (i1 &&& (1 : Int32))), .val (.int (i3 &&& (1 : Int32))), .val (.int (i5 &&& (1 : Int32))), .val (.int (i2 &&& (63 : Int32))), .unset, .unset, .unset, .unset, .unset, .unset, .unset] [])) _
    refine XS.iloadN X0.here hx rfl (hb hby at_22) rfl ?_
    show Steps p.tables e below (s₁.setTop (mkF m 23 #[.val (.int i1), .val (.int i2), .val (.int i3), .val (.int i4), .val (.int i5), .val (.int i6), .val (.int (i1 &&& (1 : Int32))), .val (.int (i3 &&& (1 : Int32))), .val (.int (i5 &&& (1 : Int32))), .val (.int (i2 &&& (63 : Int32))), .unset, .unset, .unset, .unset, .unset, .unset, .unset] [(.int i4)])) _
    refine XS.bipush X0.here hx rfl (hb hby at_23) ?_
    show Steps p.tables e below (s₁.setTop (mkF m 25 #[.val (.int i1), .val (.int i2), .val (.int i3), .val (.int i4), .val (.int i5), .val (.int i6), .val (.int (i1 &&& (1 : Int32))), .val (.int (i3 &&& (1 : Int32))), .val (.int (i5 &&& (1 : Int32))), .val (.int (i2 &&& (63 : Int32))), .unset, .unset, .unset, .unset, .unset, .unset, .unset] [(.int (63 : Int32)), (.int i4)])) _
    refine XS.iand X0.here hx rfl (hb hby at_25) rfl ?_
    show Steps p.tables e below (s₁.setTop (mkF m 26 #[.val (.int i1), .val (.int i2), .val (.int i3), .val (.int i4), .val (.int i5), .val (.int i6), .val (.int (i1 &&& (1 : Int32))), .val (.int (i3 &&& (1 : Int32))), .val (.int (i5 &&& (1 : Int32))), .val (.int (i2 &&& (63 : Int32))), .unset, .unset, .unset, .unset, .unset, .unset, .unset] [(.int (i4 &&& (63 : Int32)))])) _
    refine XS.istore X0.here hx rfl (hb hby at_26) rfl (l' := #[.val (.int i1), .val (.int i2), .val (.int i3), .val (.int i4), .val (.int i5), .val (.int i6), .val (.int (i1 &&& (1 : Int32))), .val (.int (i3 &&& (1 : Int32))), .val (.int (i5 &&& (1 : Int32))), .val (.int (i2 &&& (63 : Int32))), .val (.int (i4 &&& (63 : Int32))), .unset, .unset, .unset, .unset, .unset, .unset]) rfl ?_
    show Steps p.tables e below (s₁.setTop (mkF m 28 #[.val (.int i1), .val (.int i2), .val (.int i3), .val (.int i4), .val (.int i5), .val (.int i6), .val (.int (i1 &&& (1 : Int32))), .val (.int (i3 &&& (1 : Int32))), .val (.int (i5 &&& (1 : Int32))), .val (.int (i2 &&& (63 : Int32))), .val (.int (i4 &&& (63 : Int32))), .unset, .unset, .unset, .unset, .unset, .unset] [])) _
    refine XS.iload X0.here hx rfl (hb hby at_28) rfl ?_
    show Steps p.tables e below (s₁.setTop (mkF m 30 #[.val (.int i1), .val (.int i2), .val (.int i3), .val (.int i4), .val (.int i5), .val (.int i6), .val (.int (i1 &&& (1 : Int32))), .val (.int (i3 &&& (1 : Int32))), .val (.int (i5 &&& (1 : Int32))), .val (.int (i2 &&& (63 : Int32))), .val (.int (i4 &&& (63 : Int32))), .unset, .unset, .unset, .unset, .unset, .unset] [(.int i6)])) _
    refine XS.bipush X0.here hx rfl (hb hby at_30) ?_
    show Steps p.tables e below (s₁.setTop (mkF m 32 #[.val (.int i1), .val (.int i2), .val (.int i3), .val (.int i4), .val (.int i5), .val (.int i6), .val (.int (i1 &&& (1 : Int32))), .val (.int (i3 &&& (1 : Int32))), .val (.int (i5 &&& (1 : Int32))), .val (.int (i2 &&& (63 : Int32))), .val (.int (i4 &&& (63 : Int32))), .unset, .unset, .unset, .unset, .unset, .unset] [(.int (63 : Int32)), (.int i6)])) _
    refine XS.iand X0.here hx rfl (hb hby at_32) rfl ?_
    show Steps p.tables e below (s₁.setTop (mkF m 33 #[.val (.int i1), .val (.int i2), .val (.int i3), .val (.int i4), .val (.int i5), .val (.int i6), .val (.int (i1 &&& (1 : Int32))), .val (.int (i3 &&& (1 : Int32))), .val (.int (i5 &&& (1 : Int32))), .val (.int (i2 &&& (63 : Int32))), .val (.int (i4 &&& (63 : Int32))), .unset, .unset, .unset, .unset, .unset, .unset] [(.int (i6 &&& (63 : Int32)))])) _
    refine XS.istore X0.here hx rfl (hb hby at_33) rfl (l' := #[.val (.int i1), .val (.int i2), .val (.int i3), .val (.int i4), .val (.int i5), .val (.int i6), .val (.int (i1 &&& (1 : Int32))), .val (.int (i3 &&& (1 : Int32))), .val (.int (i5 &&& (1 : Int32))), .val (.int (i2 &&& (63 : Int32))), .val (.int (i4 &&& (63 : Int32))), .val (.int (i6 &&& (63 : Int32))), .unset, .unset, .unset, .unset, .unset]) rfl ?_
    show Steps p.tables e below (s₁.setTop (mkF m 35 #[.val (.int i1), .val (.int i2), .val (.int i3), .val (.int i4), .val (.int i5), .val (.int i6), .val (.int (i1 &&& (1 : Int32))), .val (.int (i3 &&& (1 : Int32))), .val (.int (i5 &&& (1 : Int32))), .val (.int (i2 &&& (63 : Int32))), .val (.int (i4 &&& (63 : Int32))), .val (.int (i6 &&& (63 : Int32))), .unset, .unset, .unset, .unset, .unset] [])) _
    refine st1 _ ?_
    show Steps p.tables e below (T1.setTop (mkF m 38 #[.val (.int i1), .val (.int i2), .val (.int i3), .val (.int i4), .val (.int i5), .val (.int i6), .val (.int (i1 &&& (1 : Int32))), .val (.int (i3 &&& (1 : Int32))), .val (.int (i5 &&& (1 : Int32))), .val (.int (i2 &&& (63 : Int32))), .val (.int (i4 &&& (63 : Int32))), .val (.int (i6 &&& (63 : Int32))), .unset, .unset, .unset, .unset, .unset] [(.ref b1)])) _
    refine XS.dup X1.here hx rfl (hb hby at_38) rfl rfl ?_
    show Steps p.tables e below (T1.setTop (mkF m 39 #[.val (.int i1), .val (.int i2), .val (.int i3), .val (.int i4), .val (.int i5), .val (.int i6), .val (.int (i1 &&& (1 : Int32))), .val (.int (i3 &&& (1 : Int32))), .val (.int (i5 &&& (1 : Int32))), .val (.int (i2 &&& (63 : Int32))), .val (.int (i4 &&& (63 : Int32))), .val (.int (i6 &&& (63 : Int32))), .unset, .unset, .unset, .unset, .unset] [(.ref b1), (.ref b1)])) _
    refine st3 _ ?_
    show Steps p.tables e below (T3.setTop (mkF m 42 #[.val (.int i1), .val (.int i2), .val (.int i3), .val (.int i4), .val (.int i5), .val (.int i6), .val (.int (i1 &&& (1 : Int32))), .val (.int (i3 &&& (1 : Int32))), .val (.int (i5 &&& (1 : Int32))), .val (.int (i2 &&& (63 : Int32))), .val (.int (i4 &&& (63 : Int32))), .val (.int (i6 &&& (63 : Int32))), .unset, .unset, .unset, .unset, .unset] [(.ref b3), (.ref b1), (.ref b1)])) _
    refine XS.dup X3.here hx rfl (hb hby at_42) rfl rfl ?_
    show Steps p.tables e below (T3.setTop (mkF m 43 #[.val (.int i1), .val (.int i2), .val (.int i3), .val (.int i4), .val (.int i5), .val (.int i6), .val (.int (i1 &&& (1 : Int32))), .val (.int (i3 &&& (1 : Int32))), .val (.int (i5 &&& (1 : Int32))), .val (.int (i2 &&& (63 : Int32))), .val (.int (i4 &&& (63 : Int32))), .val (.int (i6 &&& (63 : Int32))), .unset, .unset, .unset, .unset, .unset] [(.ref b3), (.ref b3), (.ref b1), (.ref b1)])) _
    refine st6.trans ?_
    show Steps p.tables e below (T6.setTop (mkF m 46 #[.val (.int i1), .val (.int i2), .val (.int i3), .val (.int i4), .val (.int i5), .val (.int i6), .val (.int (i1 &&& (1 : Int32))), .val (.int (i3 &&& (1 : Int32))), .val (.int (i5 &&& (1 : Int32))), .val (.int (i2 &&& (63 : Int32))), .val (.int (i4 &&& (63 : Int32))), .val (.int (i6 &&& (63 : Int32))), .unset, .unset, .unset, .unset, .unset] [(.ref b3), (.ref b1), (.ref b1)])) _
    refine XS.iconst X6.here hx rfl (hb hby at_46) ?_
    show Steps p.tables e below (T6.setTop (mkF m 47 #[.val (.int i1), .val (.int i2), .val (.int i3), .val (.int i4), .val (.int i5), .val (.int i6), .val (.int (i1 &&& (1 : Int32))), .val (.int (i3 &&& (1 : Int32))), .val (.int (i5 &&& (1 : Int32))), .val (.int (i2 &&& (63 : Int32))), .val (.int (i4 &&& (63 : Int32))), .val (.int (i6 &&& (63 : Int32))), .unset, .unset, .unset, .unset, .unset] [(.int (2 : Int32)), (.ref b3), (.ref b1), (.ref b1)])) _
    refine st14.trans ?_
    show Steps p.tables e below (T14.setTop (mkF m 50 #[.val (.int i1), .val (.int i2), .val (.int i3), .val (.int i4), .val (.int i5), .val (.int i6), .val (.int (i1 &&& (1 : Int32))), .val (.int (i3 &&& (1 : Int32))), .val (.int (i5 &&& (1 : Int32))), .val (.int (i2 &&& (63 : Int32))), .val (.int (i4 &&& (63 : Int32))), .val (.int (i6 &&& (63 : Int32))), .unset, .unset, .unset, .unset, .unset] [(.ref b1)])) _
    refine XS.astore X14.here hx rfl (hb hby at_50) rfl rfl (l' := #[.val (.int i1), .val (.int i2), .val (.int i3), .val (.int i4), .val (.int i5), .val (.int i6), .val (.int (i1 &&& (1 : Int32))), .val (.int (i3 &&& (1 : Int32))), .val (.int (i5 &&& (1 : Int32))), .val (.int (i2 &&& (63 : Int32))), .val (.int (i4 &&& (63 : Int32))), .val (.int (i6 &&& (63 : Int32))), .val (.ref b1), .unset, .unset, .unset, .unset]) rfl ?_
    show Steps p.tables e below (T14.setTop (mkF m 52 #[.val (.int i1), .val (.int i2), .val (.int i3), .val (.int i4), .val (.int i5), .val (.int i6), .val (.int (i1 &&& (1 : Int32))), .val (.int (i3 &&& (1 : Int32))), .val (.int (i5 &&& (1 : Int32))), .val (.int (i2 &&& (63 : Int32))), .val (.int (i4 &&& (63 : Int32))), .val (.int (i6 &&& (63 : Int32))), .val (.ref b1), .unset, .unset, .unset, .unset] [])) _
    refine XS.aload X14.here hx rfl (hb hby at_52) rfl rfl ?_
    show Steps p.tables e below (T14.setTop (mkF m 54 #[.val (.int i1), .val (.int i2), .val (.int i3), .val (.int i4), .val (.int i5), .val (.int i6), .val (.int (i1 &&& (1 : Int32))), .val (.int (i3 &&& (1 : Int32))), .val (.int (i5 &&& (1 : Int32))), .val (.int (i2 &&& (63 : Int32))), .val (.int (i4 &&& (63 : Int32))), .val (.int (i6 &&& (63 : Int32))), .val (.ref b1), .unset, .unset, .unset, .unset] [(.ref b1)])) _
    refine XS.iload X14.here hx rfl (hb hby at_54) rfl ?_
    show Steps p.tables e below (T14.setTop (mkF m 56 #[.val (.int i1), .val (.int i2), .val (.int i3), .val (.int i4), .val (.int i5), .val (.int i6), .val (.int (i1 &&& (1 : Int32))), .val (.int (i3 &&& (1 : Int32))), .val (.int (i5 &&& (1 : Int32))), .val (.int (i2 &&& (63 : Int32))), .val (.int (i4 &&& (63 : Int32))), .val (.int (i6 &&& (63 : Int32))), .val (.ref b1), .unset, .unset, .unset, .unset] [(.int (i1 &&& (1 : Int32))), (.ref b1)])) _
    refine XS.iload X14.here hx rfl (hb hby at_56) rfl ?_
    show Steps p.tables e below (T14.setTop (mkF m 58 #[.val (.int i1), .val (.int i2), .val (.int i3), .val (.int i4), .val (.int i5), .val (.int i6), .val (.int (i1 &&& (1 : Int32))), .val (.int (i3 &&& (1 : Int32))), .val (.int (i5 &&& (1 : Int32))), .val (.int (i2 &&& (63 : Int32))), .val (.int (i4 &&& (63 : Int32))), .val (.int (i6 &&& (63 : Int32))), .val (.ref b1), .unset, .unset, .unset, .unset] [(.int (i2 &&& (63 : Int32))), (.int (i1 &&& (1 : Int32))), (.ref b1)])) _
    refine st16.trans ?_
    show Steps p.tables e below (T16.setTop (mkF m 61 #[.val (.int i1), .val (.int i2), .val (.int i3), .val (.int i4), .val (.int i5), .val (.int i6), .val (.int (i1 &&& (1 : Int32))), .val (.int (i3 &&& (1 : Int32))), .val (.int (i5 &&& (1 : Int32))), .val (.int (i2 &&& (63 : Int32))), .val (.int (i4 &&& (63 : Int32))), .val (.int (i6 &&& (63 : Int32))), .val (.ref b1), .unset, .unset, .unset, .unset] [])) _
    refine XS.aload X16.here hx rfl (hb hby at_61) rfl rfl ?_
    show Steps p.tables e below (T16.setTop (mkF m 63 #[.val (.int i1), .val (.int i2), .val (.int i3), .val (.int i4), .val (.int i5), .val (.int i6), .val (.int (i1 &&& (1 : Int32))), .val (.int (i3 &&& (1 : Int32))), .val (.int (i5 &&& (1 : Int32))), .val (.int (i2 &&& (63 : Int32))), .val (.int (i4 &&& (63 : Int32))), .val (.int (i6 &&& (63 : Int32))), .val (.ref b1), .unset, .unset, .unset, .unset] [(.ref b1)])) _
    refine XS.iload X16.here hx rfl (hb hby at_63) rfl ?_
    show Steps p.tables e below (T16.setTop (mkF m 65 #[.val (.int i1), .val (.int i2), .val (.int i3), .val (.int i4), .val (.int i5), .val (.int i6), .val (.int (i1 &&& (1 : Int32))), .val (.int (i3 &&& (1 : Int32))), .val (.int (i5 &&& (1 : Int32))), .val (.int (i2 &&& (63 : Int32))), .val (.int (i4 &&& (63 : Int32))), .val (.int (i6 &&& (63 : Int32))), .val (.ref b1), .unset, .unset, .unset, .unset] [(.int (i3 &&& (1 : Int32))), (.ref b1)])) _
    refine XS.iload X16.here hx rfl (hb hby at_65) rfl ?_
    show Steps p.tables e below (T16.setTop (mkF m 67 #[.val (.int i1), .val (.int i2), .val (.int i3), .val (.int i4), .val (.int i5), .val (.int i6), .val (.int (i1 &&& (1 : Int32))), .val (.int (i3 &&& (1 : Int32))), .val (.int (i5 &&& (1 : Int32))), .val (.int (i2 &&& (63 : Int32))), .val (.int (i4 &&& (63 : Int32))), .val (.int (i6 &&& (63 : Int32))), .val (.ref b1), .unset, .unset, .unset, .unset] [(.int (i4 &&& (63 : Int32))), (.int (i3 &&& (1 : Int32))), (.ref b1)])) _
    refine st20.trans ?_
    show Steps p.tables e below (T20.setTop (mkF m 70 #[.val (.int i1), .val (.int i2), .val (.int i3), .val (.int i4), .val (.int i5), .val (.int i6), .val (.int (i1 &&& (1 : Int32))), .val (.int (i3 &&& (1 : Int32))), .val (.int (i5 &&& (1 : Int32))), .val (.int (i2 &&& (63 : Int32))), .val (.int (i4 &&& (63 : Int32))), .val (.int (i6 &&& (63 : Int32))), .val (.ref b1), .unset, .unset, .unset, .unset] [])) _
    refine XS.aload X20.here hx rfl (hb hby at_70) rfl rfl ?_
    show Steps p.tables e below (T20.setTop (mkF m 72 #[.val (.int i1), .val (.int i2), .val (.int i3), .val (.int i4), .val (.int i5), .val (.int i6), .val (.int (i1 &&& (1 : Int32))), .val (.int (i3 &&& (1 : Int32))), .val (.int (i5 &&& (1 : Int32))), .val (.int (i2 &&& (63 : Int32))), .val (.int (i4 &&& (63 : Int32))), .val (.int (i6 &&& (63 : Int32))), .val (.ref b1), .unset, .unset, .unset, .unset] [(.ref b1)])) _
    refine XS.iload X20.here hx rfl (hb hby at_72) rfl ?_
    show Steps p.tables e below (T20.setTop (mkF m 74 #[.val (.int i1), .val (.int i2), .val (.int i3), .val (.int i4), .val (.int i5), .val (.int i6), .val (.int (i1 &&& (1 : Int32))), .val (.int (i3 &&& (1 : Int32))), .val (.int (i5 &&& (1 : Int32))), .val (.int (i2 &&& (63 : Int32))), .val (.int (i4 &&& (63 : Int32))), .val (.int (i6 &&& (63 : Int32))), .val (.ref b1), .unset, .unset, .unset, .unset] [(.int (i5 &&& (1 : Int32))), (.ref b1)])) _
    refine XS.iload X20.here hx rfl (hb hby at_74) rfl ?_
    show Steps p.tables e below (T20.setTop (mkF m 76 #[.val (.int i1), .val (.int i2), .val (.int i3), .val (.int i4), .val (.int i5), .val (.int i6), .val (.int (i1 &&& (1 : Int32))), .val (.int (i3 &&& (1 : Int32))), .val (.int (i5 &&& (1 : Int32))), .val (.int (i2 &&& (63 : Int32))), .val (.int (i4 &&& (63 : Int32))), .val (.int (i6 &&& (63 : Int32))), .val (.ref b1), .unset, .unset, .unset, .unset] [(.int (i6 &&& (63 : Int32))), (.int (i5 &&& (1 : Int32))), (.ref b1)])) _
    refine st25.trans ?_
    show Steps p.tables e below (T25.setTop (mkF m 79 #[.val (.int i1), .val (.int i2), .val (.int i3), .val (.int i4), .val (.int i5), .val (.int i6), .val (.int (i1 &&& (1 : Int32))), .val (.int (i3 &&& (1 : Int32))), .val (.int (i5 &&& (1 : Int32))), .val (.int (i2 &&& (63 : Int32))), .val (.int (i4 &&& (63 : Int32))), .val (.int (i6 &&& (63 : Int32))), .val (.ref b1), .unset, .unset, .unset, .unset] [])) _
    refine XS.iload X25.here hx rfl (hb hby at_79) rfl ?_
    show Steps p.tables e below (T25.setTop (mkF m 81 #[.val (.int i1), .val (.int i2), .val (.int i3), .val (.int i4), .val (.int i5), .val (.int i6), .val (.int (i1 &&& (1 : Int32))), .val (.int (i3 &&& (1 : Int32))), .val (.int (i5 &&& (1 : Int32))), .val (.int (i2 &&& (63 : Int32))), .val (.int (i4 &&& (63 : Int32))), .val (.int (i6 &&& (63 : Int32))), .val (.ref b1), .unset, .unset, .unset, .unset] [(.int (i1 &&& (1 : Int32)))])) _
    refine XS.iconst X25.here hx rfl (hb hby at_81) ?_
    show Steps p.tables e below (T25.setTop (mkF m 82 #[.val (.int i1), .val (.int i2), .val (.int i3), .val (.int i4), .val (.int i5), .val (.int i6), .val (.int (i1 &&& (1 : Int32))), .val (.int (i3 &&& (1 : Int32))), .val (.int (i5 &&& (1 : Int32))), .val (.int (i2 &&& (63 : Int32))), .val (.int (i4 &&& (63 : Int32))), .val (.int (i6 &&& (63 : Int32))), .val (.ref b1), .unset, .unset, .unset, .unset] [(.int (0 : Int32)), (.int (i1 &&& (1 : Int32)))])) _
    refine XS.iload X25.here hx rfl (hb hby at_82) rfl ?_
    show Steps p.tables e below (T25.setTop (mkF m 84 #[.val (.int i1), .val (.int i2), .val (.int i3), .val (.int i4), .val (.int i5), .val (.int i6), .val (.int (i1 &&& (1 : Int32))), .val (.int (i3 &&& (1 : Int32))), .val (.int (i5 &&& (1 : Int32))), .val (.int (i2 &&& (63 : Int32))), .val (.int (i4 &&& (63 : Int32))), .val (.int (i6 &&& (63 : Int32))), .val (.ref b1), .unset, .unset, .unset, .unset] [(.int (i2 &&& (63 : Int32))), (.int (0 : Int32)), (.int (i1 &&& (1 : Int32)))])) _
    refine st28 _ ?_
    show Steps p.tables e below (T28.setTop (mkF m 87 #[.val (.int i1), .val (.int i2), .val (.int i3), .val (.int i4), .val (.int i5), .val (.int i6), .val (.int (i1 &&& (1 : Int32))), .val (.int (i3 &&& (1 : Int32))), .val (.int (i5 &&& (1 : Int32))), .val (.int (i2 &&& (63 : Int32))), .val (.int (i4 &&& (63 : Int32))), .val (.int (i6 &&& (63 : Int32))), .val (.ref b1), .unset, .unset, .unset, .unset] [(.long (own_r10 (i1 &&& (1 : Int32)) (0 : Int32) (i2 &&& (63 : Int32))))])) _
    refine XS.iload X28.here hx rfl (hb hby at_87) rfl ?_
    show Steps p.tables e below (T28.setTop (mkF m 89 #[.val (.int i1), .val (.int i2), .val (.int i3), .val (.int i4), .val (.int i5), .val (.int i6), .val (.int (i1 &&& (1 : Int32))), .val (.int (i3 &&& (1 : Int32))), .val (.int (i5 &&& (1 : Int32))), .val (.int (i2 &&& (63 : Int32))), .val (.int (i4 &&& (63 : Int32))), .val (.int (i6 &&& (63 : Int32))), .val (.ref b1), .unset, .unset, .unset, .unset] [(.int (i3 &&& (1 : Int32))), (.long (own_r10 (i1 &&& (1 : Int32)) (0 : Int32) (i2 &&& (63 : Int32))))])) _
    refine XS.iconst X28.here hx rfl (hb hby at_89) ?_
    show Steps p.tables e below (T28.setTop (mkF m 90 #[.val (.int i1), .val (.int i2), .val (.int i3), .val (.int i4), .val (.int i5), .val (.int i6), .val (.int (i1 &&& (1 : Int32))), .val (.int (i3 &&& (1 : Int32))), .val (.int (i5 &&& (1 : Int32))), .val (.int (i2 &&& (63 : Int32))), .val (.int (i4 &&& (63 : Int32))), .val (.int (i6 &&& (63 : Int32))), .val (.ref b1), .unset, .unset, .unset, .unset] [(.int (0 : Int32)), (.int (i3 &&& (1 : Int32))), (.long (own_r10 (i1 &&& (1 : Int32)) (0 : Int32) (i2 &&& (63 : Int32))))])) _
    refine XS.iload X28.here hx rfl (hb hby at_90) rfl ?_
    show Steps p.tables e below (T28.setTop (mkF m 92 #[.val (.int i1), .val (.int i2), .val (.int i3), .val (.int i4), .val (.int i5), .val (.int i6), .val (.int (i1 &&& (1 : Int32))), .val (.int (i3 &&& (1 : Int32))), .val (.int (i5 &&& (1 : Int32))), .val (.int (i2 &&& (63 : Int32))), .val (.int (i4 &&& (63 : Int32))), .val (.int (i6 &&& (63 : Int32))), .val (.ref b1), .unset, .unset, .unset, .unset] [(.int (i4 &&& (63 : Int32))), (.int (0 : Int32)), (.int (i3 &&& (1 : Int32))), (.long (own_r10 (i1 &&& (1 : Int32)) (0 : Int32) (i2 &&& (63 : Int32))))])) _
    refine st29 _ ?_
    show Steps p.tables e below (T29.setTop (mkF m 95 #[.val (.int i1), .val (.int i2), .val (.int i3), .val (.int i4), .val (.int i5), .val (.int i6), .val (.int (i1 &&& (1 : Int32))), .val (.int (i3 &&& (1 : Int32))), .val (.int (i5 &&& (1 : Int32))), .val (.int (i2 &&& (63 : Int32))), .val (.int (i4 &&& (63 : Int32))), .val (.int (i6 &&& (63 : Int32))), .val (.ref b1), .unset, .unset, .unset, .unset] [(.long (own_r10 (i3 &&& (1 : Int32)) (0 : Int32) (i4 &&& (63 : Int32)))), (.long (own_r10 (i1 &&& (1 : Int32)) (0 : Int32) (i2 &&& (63 : Int32))))])) _
    refine XS.lor X29.here hx rfl (hb hby at_95) rfl ?_
    show Steps p.tables e below (T29.setTop (mkF m 96 #[.val (.int i1), .val (.int i2), .val (.int i3), .val (.int i4), .val (.int i5), .val (.int i6), .val (.int (i1 &&& (1 : Int32))), .val (.int (i3 &&& (1 : Int32))), .val (.int (i5 &&& (1 : Int32))), .val (.int (i2 &&& (63 : Int32))), .val (.int (i4 &&& (63 : Int32))), .val (.int (i6 &&& (63 : Int32))), .val (.ref b1), .unset, .unset, .unset, .unset] [(.long ((own_r10 (i1 &&& (1 : Int32)) (0 : Int32) (i2 &&& (63 : Int32))) ||| (own_r10 (i3 &&& (1 : Int32)) (0 : Int32) (i4 &&& (63 : Int32)))))])) _
    refine XS.iload X29.here hx rfl (hb hby at_96) rfl ?_
    show Steps p.tables e below (T29.setTop (mkF m 98 #[.val (.int i1), .val (.int i2), .val (.int i3), .val (.int i4), .val (.int i5), .val (.int i6), .val (.int (i1 &&& (1 : Int32))), .val (.int (i3 &&& (1 : Int32))), .val (.int (i5 &&& (1 : Int32))), .val (.int (i2 &&& (63 : Int32))), .val (.int (i4 &&& (63 : Int32))), .val (.int (i6 &&& (63 : Int32))), .val (.ref b1), .unset, .unset, .unset, .unset] [(.int (i5 &&& (1 : Int32))), (.long ((own_r10 (i1 &&& (1 : Int32)) (0 : Int32) (i2 &&& (63 : Int32))) ||| (own_r10 (i3 &&& (1 : Int32)) (0 : Int32) (i4 &&& (63 : Int32)))))])) _
    refine XS.iconst X29.here hx rfl (hb hby at_98) ?_
    show Steps p.tables e below (T29.setTop (mkF m 99 #[.val (.int i1), .val (.int i2), .val (.int i3), .val (.int i4), .val (.int i5), .val (.int i6), .val (.int (i1 &&& (1 : Int32))), .val (.int (i3 &&& (1 : Int32))), .val (.int (i5 &&& (1 : Int32))), .val (.int (i2 &&& (63 : Int32))), .val (.int (i4 &&& (63 : Int32))), .val (.int (i6 &&& (63 : Int32))), .val (.ref b1), .unset, .unset, .unset, .unset] [(.int (0 : Int32)), (.int (i5 &&& (1 : Int32))), (.long ((own_r10 (i1 &&& (1 : Int32)) (0 : Int32) (i2 &&& (63 : Int32))) ||| (own_r10 (i3 &&& (1 : Int32)) (0 : Int32) (i4 &&& (63 : Int32)))))])) _
    refine XS.iload X29.here hx rfl (hb hby at_99) rfl ?_
    show Steps p.tables e below (T29.setTop (mkF m 101 #[.val (.int i1), .val (.int i2), .val (.int i3), .val (.int i4), .val (.int i5), .val (.int i6), .val (.int (i1 &&& (1 : Int32))), .val (.int (i3 &&& (1 : Int32))), .val (.int (i5 &&& (1 : Int32))), .val (.int (i2 &&& (63 : Int32))), .val (.int (i4 &&& (63 : Int32))), .val (.int (i6 &&& (63 : Int32))), .val (.ref b1), .unset, .unset, .unset, .unset] [(.int (i6 &&& (63 : Int32))), (.int (0 : Int32)), (.int (i5 &&& (1 : Int32))), (.long ((own_r10 (i1 &&& (1 : Int32)) (0 : Int32) (i2 &&& (63 : Int32))) ||| (own_r10 (i3 &&& (1 : Int32)) (0 : Int32) (i4 &&& (63 : Int32)))))])) _
    refine st30 _ ?_
    show Steps p.tables e below (T30.setTop (mkF m 104 #[.val (.int i1), .val (.int i2), .val (.int i3), .val (.int i4), .val (.int i5), .val (.int i6), .val (.int (i1 &&& (1 : Int32))), .val (.int (i3 &&& (1 : Int32))), .val (.int (i5 &&& (1 : Int32))), .val (.int (i2 &&& (63 : Int32))), .val (.int (i4 &&& (63 : Int32))), .val (.int (i6 &&& (63 : Int32))), .val (.ref b1), .unset, .unset, .unset, .unset] [(.long (own_r10 (i5 &&& (1 : Int32)) (0 : Int32) (i6 &&& (63 : Int32)))), (.long ((own_r10 (i1 &&& (1 : Int32)) (0 : Int32) (i2 &&& (63 : Int32))) ||| (own_r10 (i3 &&& (1 : Int32)) (0 : Int32) (i4 &&& (63 : Int32)))))])) _
    refine XS.lor X30.here hx rfl (hb hby at_104) rfl ?_
    show Steps p.tables e below (T30.setTop (mkF m 105 #[.val (.int i1), .val (.int i2), .val (.int i3), .val (.int i4), .val (.int i5), .val (.int i6), .val (.int (i1 &&& (1 : Int32))), .val (.int (i3 &&& (1 : Int32))), .val (.int (i5 &&& (1 : Int32))), .val (.int (i2 &&& (63 : Int32))), .val (.int (i4 &&& (63 : Int32))), .val (.int (i6 &&& (63 : Int32))), .val (.ref b1), .unset, .unset, .unset, .unset] [(.long (((own_r10 (i1 &&& (1 : Int32)) (0 : Int32) (i2 &&& (63 : Int32))) ||| (own_r10 (i3 &&& (1 : Int32)) (0 : Int32) (i4 &&& (63 : Int32)))) ||| (own_r10 (i5 &&& (1 : Int32)) (0 : Int32) (i6 &&& (63 : Int32)))))])) _
    refine XS.lstore X30.here hx rfl (hb hby at_105) rfl (l' := #[.val (.int i1), .val (.int i2), .val (.int i3), .val (.int i4), .val (.int i5), .val (.int i6), .val (.int (i1 &&& (1 : Int32))), .val (.int (i3 &&& (1 : Int32))), .val (.int (i5 &&& (1 : Int32))), .val (.int (i2 &&& (63 : Int32))), .val (.int (i4 &&& (63 : Int32))), .val (.int (i6 &&& (63 : Int32))), .val (.ref b1), .val (.long (((own_r10 (i1 &&& (1 : Int32)) (0 : Int32) (i2 &&& (63 : Int32))) ||| (own_r10 (i3 &&& (1 : Int32)) (0 : Int32) (i4 &&& (63 : Int32)))) ||| (own_r10 (i5 &&& (1 : Int32)) (0 : Int32) (i6 &&& (63 : Int32))))), .second, .unset, .unset]) rfl ?_
    show Steps p.tables e below (T30.setTop (mkF m 107 #[.val (.int i1), .val (.int i2), .val (.int i3), .val (.int i4), .val (.int i5), .val (.int i6), .val (.int (i1 &&& (1 : Int32))), .val (.int (i3 &&& (1 : Int32))), .val (.int (i5 &&& (1 : Int32))), .val (.int (i2 &&& (63 : Int32))), .val (.int (i4 &&& (63 : Int32))), .val (.int (i6 &&& (63 : Int32))), .val (.ref b1), .val (.long (((own_r10 (i1 &&& (1 : Int32)) (0 : Int32) (i2 &&& (63 : Int32))) ||| (own_r10 (i3 &&& (1 : Int32)) (0 : Int32) (i4 &&& (63 : Int32)))) ||| (own_r10 (i5 &&& (1 : Int32)) (0 : Int32) (i6 &&& (63 : Int32))))), .second, .unset, .unset] [])) _
    refine XS.iload X30.here hx rfl (hb hby at_107) rfl ?_
    show Steps p.tables e below (T30.setTop (mkF m 109 #[.val (.int i1), .val (.int i2), .val (.int i3), .val (.int i4), .val (.int i5), .val (.int i6), .val (.int (i1 &&& (1 : Int32))), .val (.int (i3 &&& (1 : Int32))), .val (.int (i5 &&& (1 : Int32))), .val (.int (i2 &&& (63 : Int32))), .val (.int (i4 &&& (63 : Int32))), .val (.int (i6 &&& (63 : Int32))), .val (.ref b1), .val (.long (((own_r10 (i1 &&& (1 : Int32)) (0 : Int32) (i2 &&& (63 : Int32))) ||| (own_r10 (i3 &&& (1 : Int32)) (0 : Int32) (i4 &&& (63 : Int32)))) ||| (own_r10 (i5 &&& (1 : Int32)) (0 : Int32) (i6 &&& (63 : Int32))))), .second, .unset, .unset] [(.int (i1 &&& (1 : Int32)))])) _
    refine XS.iconst X30.here hx rfl (hb hby at_109) ?_
    show Steps p.tables e below (T30.setTop (mkF m 110 #[.val (.int i1), .val (.int i2), .val (.int i3), .val (.int i4), .val (.int i5), .val (.int i6), .val (.int (i1 &&& (1 : Int32))), .val (.int (i3 &&& (1 : Int32))), .val (.int (i5 &&& (1 : Int32))), .val (.int (i2 &&& (63 : Int32))), .val (.int (i4 &&& (63 : Int32))), .val (.int (i6 &&& (63 : Int32))), .val (.ref b1), .val (.long (((own_r10 (i1 &&& (1 : Int32)) (0 : Int32) (i2 &&& (63 : Int32))) ||| (own_r10 (i3 &&& (1 : Int32)) (0 : Int32) (i4 &&& (63 : Int32)))) ||| (own_r10 (i5 &&& (1 : Int32)) (0 : Int32) (i6 &&& (63 : Int32))))), .second, .unset, .unset] [(.int (1 : Int32)), (.int (i1 &&& (1 : Int32)))])) _
    refine XS.iload X30.here hx rfl (hb hby at_110) rfl ?_
    show Steps p.tables e below (T30.setTop (mkF m 112 #[.val (.int i1), .val (.int i2), .val (.int i3), .val (.int i4), .val (.int i5), .val (.int i6), .val (.int (i1 &&& (1 : Int32))), .val (.int (i3 &&& (1 : Int32))), .val (.int (i5 &&& (1 : Int32))), .val (.int (i2 &&& (63 : Int32))), .val (.int (i4 &&& (63 : Int32))), .val (.int (i6 &&& (63 : Int32))), .val (.ref b1), .val (.long (((own_r10 (i1 &&& (1 : Int32)) (0 : Int32) (i2 &&& (63 : Int32))) ||| (own_r10 (i3 &&& (1 : Int32)) (0 : Int32) (i4 &&& (63 : Int32)))) ||| (own_r10 (i5 &&& (1 : Int32)) (0 : Int32) (i6 &&& (63 : Int32))))), .second, .unset, .unset] [(.int (i2 &&& (63 : Int32))), (.int (1 : Int32)), (.int (i1 &&& (1 : Int32)))])) _
    refine st31 _ ?_
    show Steps p.tables e below (T31.setTop (mkF m 115 #[.val (.int i1), .val (.int i2), .val (.int i3), .val (.int i4), .val (.int i5), .val (.int i6), .val (.int (i1 &&& (1 : Int32))), .val (.int (i3 &&& (1 : Int32))), .val (.int (i5 &&& (1 : Int32))), .val (.int (i2 &&& (63 : Int32))), .val (.int (i4 &&& (63 : Int32))), .val (.int (i6 &&& (63 : Int32))), .val (.ref b1), .val (.long (((own_r10 (i1 &&& (1 : Int32)) (0 : Int32) (i2 &&& (63 : Int32))) ||| (own_r10 (i3 &&& (1 : Int32)) (0 : Int32) (i4 &&& (63 : Int32)))) ||| (own_r10 (i5 &&& (1 : Int32)) (0 : Int32) (i6 &&& (63 : Int32))))), .second, .unset, .unset] [(.long (own_r10 (i1 &&& (1 : Int32)) (1 : Int32) (i2 &&& (63 : Int32))))])) _
    refine XS.iload X31.here hx rfl (hb hby at_115) rfl ?_
    show Steps p.tables e below (T31.setTop (mkF m 117 #[.val (.int i1), .val (.int i2), .val (.int i3), .val (.int i4), .val (.int i5), .val (.int i6), .val (.int (i1 &&& (1 : Int32))), .val (.int (i3 &&& (1 : Int32))), .val (.int (i5 &&& (1 : Int32))), .val (.int (i2 &&& (63 : Int32))), .val (.int (i4 &&& (63 : Int32))), .val (.int (i6 &&& (63 : Int32))), .val (.ref b1), .val (.long (((own_r10 (i1 &&& (1 : Int32)) (0 : Int32) (i2 &&& (63 : Int32))) ||| (own_r10 (i3 &&& (1 : Int32)) (0 : Int32) (i4 &&& (63 : Int32)))) ||| (own_r10 (i5 &&& (1 : Int32)) (0 : Int32) (i6 &&& (63 : Int32))))), .second, .unset, .unset] [(.int (i3 &&& (1 : Int32))), (.long (own_r10 (i1 &&& (1 : Int32)) (1 : Int32) (i2 &&& (63 : Int32))))])) _
    refine XS.iconst X31.here hx rfl (hb hby at_117) ?_
    show Steps p.tables e below (T31.setTop (mkF m 118 #[.val (.int i1), .val (.int i2), .val (.int i3), .val (.int i4), .val (.int i5), .val (.int i6), .val (.int (i1 &&& (1 : Int32))), .val (.int (i3 &&& (1 : Int32))), .val (.int (i5 &&& (1 : Int32))), .val (.int (i2 &&& (63 : Int32))), .val (.int (i4 &&& (63 : Int32))), .val (.int (i6 &&& (63 : Int32))), .val (.ref b1), .val (.long (((own_r10 (i1 &&& (1 : Int32)) (0 : Int32) (i2 &&& (63 : Int32))) ||| (own_r10 (i3 &&& (1 : Int32)) (0 : Int32) (i4 &&& (63 : Int32)))) ||| (own_r10 (i5 &&& (1 : Int32)) (0 : Int32) (i6 &&& (63 : Int32))))), .second, .unset, .unset] [(.int (1 : Int32)), (.int (i3 &&& (1 : Int32))), (.long (own_r10 (i1 &&& (1 : Int32)) (1 : Int32) (i2 &&& (63 : Int32))))])) _
    refine XS.iload X31.here hx rfl (hb hby at_118) rfl ?_
    show Steps p.tables e below (T31.setTop (mkF m 120 #[.val (.int i1), .val (.int i2), .val (.int i3), .val (.int i4), .val (.int i5), .val (.int i6), .val (.int (i1 &&& (1 : Int32))), .val (.int (i3 &&& (1 : Int32))), .val (.int (i5 &&& (1 : Int32))), .val (.int (i2 &&& (63 : Int32))), .val (.int (i4 &&& (63 : Int32))), .val (.int (i6 &&& (63 : Int32))), .val (.ref b1), .val (.long (((own_r10 (i1 &&& (1 : Int32)) (0 : Int32) (i2 &&& (63 : Int32))) ||| (own_r10 (i3 &&& (1 : Int32)) (0 : Int32) (i4 &&& (63 : Int32)))) ||| (own_r10 (i5 &&& (1 : Int32)) (0 : Int32) (i6 &&& (63 : Int32))))), .second, .unset, .unset] [(.int (i4 &&& (63 : Int32))), (.int (1 : Int32)), (.int (i3 &&& (1 : Int32))), (.long (own_r10 (i1 &&& (1 : Int32)) (1 : Int32) (i2 &&& (63 : Int32))))])) _
    refine st32 _ ?_
    show Steps p.tables e below (T32.setTop (mkF m 123 #[.val (.int i1), .val (.int i2), .val (.int i3), .val (.int i4), .val (.int i5), .val (.int i6), .val (.int (i1 &&& (1 : Int32))), .val (.int (i3 &&& (1 : Int32))), .val (.int (i5 &&& (1 : Int32))), .val (.int (i2 &&& (63 : Int32))), .val (.int (i4 &&& (63 : Int32))), .val (.int (i6 &&& (63 : Int32))), .val (.ref b1), .val (.long (((own_r10 (i1 &&& (1 : Int32)) (0 : Int32) (i2 &&& (63 : Int32))) ||| (own_r10 (i3 &&& (1 : Int32)) (0 : Int32) (i4 &&& (63 : Int32)))) ||| (own_r10 (i5 &&& (1 : Int32)) (0 : Int32) (i6 &&& (63 : Int32))))), .second, .unset, .unset] [(.long (own_r10 (i3 &&& (1 : Int32)) (1 : Int32) (i4 &&& (63 : Int32)))), (.long (own_r10 (i1 &&& (1 : Int32)) (1 : Int32) (i2 &&& (63 : Int32))))])) _
    refine XS.lor X32.here hx rfl (hb hby at_123) rfl ?_
    show Steps p.tables e below (T32.setTop (mkF m 124 #[.val (.int i1), .val (.int i2), .val (.int i3), .val (.int i4), .val (.int i5), .val (.int i6), .val (.int (i1 &&& (1 : Int32))), .val (.int (i3 &&& (1 : Int32))), .val (.int (i5 &&& (1 : Int32))), .val (.int (i2 &&& (63 : Int32))), .val (.int (i4 &&& (63 : Int32))), .val (.int (i6 &&& (63 : Int32))), .val (.ref b1), .val (.long (((own_r10 (i1 &&& (1 : Int32)) (0 : Int32) (i2 &&& (63 : Int32))) ||| (own_r10 (i3 &&& (1 : Int32)) (0 : Int32) (i4 &&& (63 : Int32)))) ||| (own_r10 (i5 &&& (1 : Int32)) (0 : Int32) (i6 &&& (63 : Int32))))), .second, .unset, .unset] [(.long ((own_r10 (i1 &&& (1 : Int32)) (1 : Int32) (i2 &&& (63 : Int32))) ||| (own_r10 (i3 &&& (1 : Int32)) (1 : Int32) (i4 &&& (63 : Int32)))))])) _
    refine XS.iload X32.here hx rfl (hb hby at_124) rfl ?_
    show Steps p.tables e below (T32.setTop (mkF m 126 #[.val (.int i1), .val (.int i2), .val (.int i3), .val (.int i4), .val (.int i5), .val (.int i6), .val (.int (i1 &&& (1 : Int32))), .val (.int (i3 &&& (1 : Int32))), .val (.int (i5 &&& (1 : Int32))), .val (.int (i2 &&& (63 : Int32))), .val (.int (i4 &&& (63 : Int32))), .val (.int (i6 &&& (63 : Int32))), .val (.ref b1), .val (.long (((own_r10 (i1 &&& (1 : Int32)) (0 : Int32) (i2 &&& (63 : Int32))) ||| (own_r10 (i3 &&& (1 : Int32)) (0 : Int32) (i4 &&& (63 : Int32)))) ||| (own_r10 (i5 &&& (1 : Int32)) (0 : Int32) (i6 &&& (63 : Int32))))), .second, .unset, .unset] [(.int (i5 &&& (1 : Int32))), (.long ((own_r10 (i1 &&& (1 : Int32)) (1 : Int32) (i2 &&& (63 : Int32))) ||| (own_r10 (i3 &&& (1 : Int32)) (1 : Int32) (i4 &&& (63 : Int32)))))])) _
    refine XS.iconst X32.here hx rfl (hb hby at_126) ?_
    show Steps p.tables e below (T32.setTop (mkF m 127 #[.val (.int i1), .val (.int i2), .val (.int i3), .val (.int i4), .val (.int i5), .val (.int i6), .val (.int (i1 &&& (1 : Int32))), .val (.int (i3 &&& (1 : Int32))), .val (.int (i5 &&& (1 : Int32))), .val (.int (i2 &&& (63 : Int32))), .val (.int (i4 &&& (63 : Int32))), .val (.int (i6 &&& (63 : Int32))), .val (.ref b1), .val (.long (((own_r10 (i1 &&& (1 : Int32)) (0 : Int32) (i2 &&& (63 : Int32))) ||| (own_r10 (i3 &&& (1 : Int32)) (0 : Int32) (i4 &&& (63 : Int32)))) ||| (own_r10 (i5 &&& (1 : Int32)) (0 : Int32) (i6 &&& (63 : Int32))))), .second, .unset, .unset] [(.int (1 : Int32)), (.int (i5 &&& (1 : Int32))), (.long ((own_r10 (i1 &&& (1 : Int32)) (1 : Int32) (i2 &&& (63 : Int32))) ||| (own_r10 (i3 &&& (1 : Int32)) (1 : Int32) (i4 &&& (63 : Int32)))))])) _
    refine XS.iload X32.here hx rfl (hb hby at_127) rfl ?_
    show Steps p.tables e below (T32.setTop (mkF m 129 #[.val (.int i1), .val (.int i2), .val (.int i3), .val (.int i4), .val (.int i5), .val (.int i6), .val (.int (i1 &&& (1 : Int32))), .val (.int (i3 &&& (1 : Int32))), .val (.int (i5 &&& (1 : Int32))), .val (.int (i2 &&& (63 : Int32))), .val (.int (i4 &&& (63 : Int32))), .val (.int (i6 &&& (63 : Int32))), .val (.ref b1), .val (.long (((own_r10 (i1 &&& (1 : Int32)) (0 : Int32) (i2 &&& (63 : Int32))) ||| (own_r10 (i3 &&& (1 : Int32)) (0 : Int32) (i4 &&& (63 : Int32)))) ||| (own_r10 (i5 &&& (1 : Int32)) (0 : Int32) (i6 &&& (63 : Int32))))), .second, .unset, .unset] [(.int (i6 &&& (63 : Int32))), (.int (1 : Int32)), (.int (i5 &&& (1 : Int32))), (.long ((own_r10 (i1 &&& (1 : Int32)) (1 : Int32) (i2 &&& (63 : Int32))) ||| (own_r10 (i3 &&& (1 : Int32)) (1 : Int32) (i4 &&& (63 : Int32)))))])) _
    refine st33 _ ?_
    show Steps p.tables e below (T33.setTop (mkF m 132 #[.val (.int i1), .val (.int i2), .val (.int i3), .val (.int i4), .val (.int i5), .val (.int i6), .val (.int (i1 &&& (1 : Int32))), .val (.int (i3 &&& (1 : Int32))), .val (.int (i5 &&& (1 : Int32))), .val (.int (i2 &&& (63 : Int32))), .val (.int (i4 &&& (63 : Int32))), .val (.int (i6 &&& (63 : Int32))), .val (.ref b1), .val (.long (((own_r10 (i1 &&& (1 : Int32)) (0 : Int32) (i2 &&& (63 : Int32))) ||| (own_r10 (i3 &&& (1 : Int32)) (0 : Int32) (i4 &&& (63 : Int32)))) ||| (own_r10 (i5 &&& (1 : Int32)) (0 : Int32) (i6 &&& (63 : Int32))))), .second, .unset, .unset] [(.long (own_r10 (i5 &&& (1 : Int32)) (1 : Int32) (i6 &&& (63 : Int32)))), (.long ((own_r10 (i1 &&& (1 : Int32)) (1 : Int32) (i2 &&& (63 : Int32))) ||| (own_r10 (i3 &&& (1 : Int32)) (1 : Int32) (i4 &&& (63 : Int32)))))])) _
    refine XS.lor X33.here hx rfl (hb hby at_132) rfl ?_
    show Steps p.tables e below (T33.setTop (mkF m 133 #[.val (.int i1), .val (.int i2), .val (.int i3), .val (.int i4), .val (.int i5), .val (.int i6), .val (.int (i1 &&& (1 : Int32))), .val (.int (i3 &&& (1 : Int32))), .val (.int (i5 &&& (1 : Int32))), .val (.int (i2 &&& (63 : Int32))), .val (.int (i4 &&& (63 : Int32))), .val (.int (i6 &&& (63 : Int32))), .val (.ref b1), .val (.long (((own_r10 (i1 &&& (1 : Int32)) (0 : Int32) (i2 &&& (63 : Int32))) ||| (own_r10 (i3 &&& (1 : Int32)) (0 : Int32) (i4 &&& (63 : Int32)))) ||| (own_r10 (i5 &&& (1 : Int32)) (0 : Int32) (i6 &&& (63 : Int32))))), .second, .unset, .unset] [(.long (((own_r10 (i1 &&& (1 : Int32)) (1 : Int32) (i2 &&& (63 : Int32))) ||| (own_r10 (i3 &&& (1 : Int32)) (1 : Int32) (i4 &&& (63 : Int32)))) ||| (own_r10 (i5 &&& (1 : Int32)) (1 : Int32) (i6 &&& (63 : Int32)))))])) _
    refine XS.lstore X33.here hx rfl (hb hby at_133) rfl (l' := #[.val (.int i1), .val (.int i2), .val (.int i3), .val (.int i4), .val (.int i5), .val (.int i6), .val (.int (i1 &&& (1 : Int32))), .val (.int (i3 &&& (1 : Int32))), .val (.int (i5 &&& (1 : Int32))), .val (.int (i2 &&& (63 : Int32))), .val (.int (i4 &&& (63 : Int32))), .val (.int (i6 &&& (63 : Int32))), .val (.ref b1), .val (.long (((own_r10 (i1 &&& (1 : Int32)) (0 : Int32) (i2 &&& (63 : Int32))) ||| (own_r10 (i3 &&& (1 : Int32)) (0 : Int32) (i4 &&& (63 : Int32)))) ||| (own_r10 (i5 &&& (1 : Int32)) (0 : Int32) (i6 &&& (63 : Int32))))), .second, .val (.long (((own_r10 (i1 &&& (1 : Int32)) (1 : Int32) (i2 &&& (63 : Int32))) ||| (own_r10 (i3 &&& (1 : Int32)) (1 : Int32) (i4 &&& (63 : Int32)))) ||| (own_r10 (i5 &&& (1 : Int32)) (1 : Int32) (i6 &&& (63 : Int32))))), .second]) rfl ?_
    show Steps p.tables e below (T33.setTop (mkF m 135 #[.val (.int i1), .val (.int i2), .val (.int i3), .val (.int i4), .val (.int i5), .val (.int i6), .val (.int (i1 &&& (1 : Int32))), .val (.int (i3 &&& (1 : Int32))), .val (.int (i5 &&& (1 : Int32))), .val (.int (i2 &&& (63 : Int32))), .val (.int (i4 &&& (63 : Int32))), .val (.int (i6 &&& (63 : Int32))), .val (.ref b1), .val (.long (((own_r10 (i1 &&& (1 : Int32)) (0 : Int32) (i2 &&& (63 : Int32))) ||| (own_r10 (i3 &&& (1 : Int32)) (0 : Int32) (i4 &&& (63 : Int32)))) ||| (own_r10 (i5 &&& (1 : Int32)) (0 : Int32) (i6 &&& (63 : Int32))))), .second, .val (.long (((own_r10 (i1 &&& (1 : Int32)) (1 : Int32) (i2 &&& (63 : Int32))) ||| (own_r10 (i3 &&& (1 : Int32)) (1 : Int32) (i4 &&& (63 : Int32)))) ||| (own_r10 (i5 &&& (1 : Int32)) (1 : Int32) (i6 &&& (63 : Int32))))), .second] [])) _
    refine XS.aload X33.here hx rfl (hb hby at_135) rfl rfl ?_
    show Steps p.tables e below (T33.setTop (mkF m 137 #[.val (.int i1), .val (.int i2), .val (.int i3), .val (.int i4), .val (.int i5), .val (.int i6), .val (.int (i1 &&& (1 : Int32))), .val (.int (i3 &&& (1 : Int32))), .val (.int (i5 &&& (1 : Int32))), .val (.int (i2 &&& (63 : Int32))), .val (.int (i4 &&& (63 : Int32))), .val (.int (i6 &&& (63 : Int32))), .val (.ref b1), .val (.long (((own_r10 (i1 &&& (1 : Int32)) (0 : Int32) (i2 &&& (63 : Int32))) ||| (own_r10 (i3 &&& (1 : Int32)) (0 : Int32) (i4 &&& (63 : Int32)))) ||| (own_r10 (i5 &&& (1 : Int32)) (0 : Int32) (i6 &&& (63 : Int32))))), .second, .val (.long (((own_r10 (i1 &&& (1 : Int32)) (1 : Int32) (i2 &&& (63 : Int32))) ||| (own_r10 (i3 &&& (1 : Int32)) (1 : Int32) (i4 &&& (63 : Int32)))) ||| (own_r10 (i5 &&& (1 : Int32)) (1 : Int32) (i6 &&& (63 : Int32))))), .second] [(.ref b1)])) _
    refine XS.iconst X33.here hx rfl (hb hby at_137) ?_
    show Steps p.tables e below (T33.setTop (mkF m 138 #[.val (.int i1), .val (.int i2), .val (.int i3), .val (.int i4), .val (.int i5), .val (.int i6), .val (.int (i1 &&& (1 : Int32))), .val (.int (i3 &&& (1 : Int32))), .val (.int (i5 &&& (1 : Int32))), .val (.int (i2 &&& (63 : Int32))), .val (.int (i4 &&& (63 : Int32))), .val (.int (i6 &&& (63 : Int32))), .val (.ref b1), .val (.long (((own_r10 (i1 &&& (1 : Int32)) (0 : Int32) (i2 &&& (63 : Int32))) ||| (own_r10 (i3 &&& (1 : Int32)) (0 : Int32) (i4 &&& (63 : Int32)))) ||| (own_r10 (i5 &&& (1 : Int32)) (0 : Int32) (i6 &&& (63 : Int32))))), .second, .val (.long (((own_r10 (i1 &&& (1 : Int32)) (1 : Int32) (i2 &&& (63 : Int32))) ||| (own_r10 (i3 &&& (1 : Int32)) (1 : Int32) (i4 &&& (63 : Int32)))) ||| (own_r10 (i5 &&& (1 : Int32)) (1 : Int32) (i6 &&& (63 : Int32))))), .second] [(.int (0 : Int32)), (.ref b1)])) _
    refine XS.iconst X33.here hx rfl (hb hby at_138) ?_
    show Steps p.tables e below (T33.setTop (mkF m 139 #[.val (.int i1), .val (.int i2), .val (.int i3), .val (.int i4), .val (.int i5), .val (.int i6), .val (.int (i1 &&& (1 : Int32))), .val (.int (i3 &&& (1 : Int32))), .val (.int (i5 &&& (1 : Int32))), .val (.int (i2 &&& (63 : Int32))), .val (.int (i4 &&& (63 : Int32))), .val (.int (i6 &&& (63 : Int32))), .val (.ref b1), .val (.long (((own_r10 (i1 &&& (1 : Int32)) (0 : Int32) (i2 &&& (63 : Int32))) ||| (own_r10 (i3 &&& (1 : Int32)) (0 : Int32) (i4 &&& (63 : Int32)))) ||| (own_r10 (i5 &&& (1 : Int32)) (0 : Int32) (i6 &&& (63 : Int32))))), .second, .val (.long (((own_r10 (i1 &&& (1 : Int32)) (1 : Int32) (i2 &&& (63 : Int32))) ||| (own_r10 (i3 &&& (1 : Int32)) (1 : Int32) (i4 &&& (63 : Int32)))) ||| (own_r10 (i5 &&& (1 : Int32)) (1 : Int32) (i6 &&& (63 : Int32))))), .second] [(.int (0 : Int32)), (.int (0 : Int32)), (.ref b1)])) _
    refine st36.trans ?_
    show Steps p.tables e below (T36.setTop (mkF m 142 #[.val (.int i1), .val (.int i2), .val (.int i3), .val (.int i4), .val (.int i5), .val (.int i6), .val (.int (i1 &&& (1 : Int32))), .val (.int (i3 &&& (1 : Int32))), .val (.int (i5 &&& (1 : Int32))), .val (.int (i2 &&& (63 : Int32))), .val (.int (i4 &&& (63 : Int32))), .val (.int (i6 &&& (63 : Int32))), .val (.ref b1), .val (.long (((own_r10 (i1 &&& (1 : Int32)) (0 : Int32) (i2 &&& (63 : Int32))) ||| (own_r10 (i3 &&& (1 : Int32)) (0 : Int32) (i4 &&& (63 : Int32)))) ||| (own_r10 (i5 &&& (1 : Int32)) (0 : Int32) (i6 &&& (63 : Int32))))), .second, .val (.long (((own_r10 (i1 &&& (1 : Int32)) (1 : Int32) (i2 &&& (63 : Int32))) ||| (own_r10 (i3 &&& (1 : Int32)) (1 : Int32) (i4 &&& (63 : Int32)))) ||| (own_r10 (i5 &&& (1 : Int32)) (1 : Int32) (i6 &&& (63 : Int32))))), .second] [(.long (own_v9_w_bits_r0_0 (i5 &&& (1 : Int32)) (i6 &&& (63 : Int32)) (1 : Int32) (own_v9_w_bits_r0_0 (i3 &&& (1 : Int32)) (i4 &&& (63 : Int32)) (1 : Int32) (own_v9_w_bits_r0_0 (i1 &&& (1 : Int32)) (i2 &&& (63 : Int32)) (1 : Int32) (0 : Int64)))))])) _
    refine XS.lload X36.here hx rfl (hb hby at_142) rfl ?_
    show Steps p.tables e below (T36.setTop (mkF m 144 #[.val (.int i1), .val (.int i2), .val (.int i3), .val (.int i4), .val (.int i5), .val (.int i6), .val (.int (i1 &&& (1 : Int32))), .val (.int (i3 &&& (1 : Int32))), .val (.int (i5 &&& (1 : Int32))), .val (.int (i2 &&& (63 : Int32))), .val (.int (i4 &&& (63 : Int32))), .val (.int (i6 &&& (63 : Int32))), .val (.ref b1), .val (.long (((own_r10 (i1 &&& (1 : Int32)) (0 : Int32) (i2 &&& (63 : Int32))) ||| (own_r10 (i3 &&& (1 : Int32)) (0 : Int32) (i4 &&& (63 : Int32)))) ||| (own_r10 (i5 &&& (1 : Int32)) (0 : Int32) (i6 &&& (63 : Int32))))), .second, .val (.long (((own_r10 (i1 &&& (1 : Int32)) (1 : Int32) (i2 &&& (63 : Int32))) ||| (own_r10 (i3 &&& (1 : Int32)) (1 : Int32) (i4 &&& (63 : Int32)))) ||| (own_r10 (i5 &&& (1 : Int32)) (1 : Int32) (i6 &&& (63 : Int32))))), .second] [(.long (((own_r10 (i1 &&& (1 : Int32)) (0 : Int32) (i2 &&& (63 : Int32))) ||| (own_r10 (i3 &&& (1 : Int32)) (0 : Int32) (i4 &&& (63 : Int32)))) ||| (own_r10 (i5 &&& (1 : Int32)) (0 : Int32) (i6 &&& (63 : Int32))))), (.long (own_v9_w_bits_r0_0 (i5 &&& (1 : Int32)) (i6 &&& (63 : Int32)) (1 : Int32) (own_v9_w_bits_r0_0 (i3 &&& (1 : Int32)) (i4 &&& (63 : Int32)) (1 : Int32) (own_v9_w_bits_r0_0 (i1 &&& (1 : Int32)) (i2 &&& (63 : Int32)) (1 : Int32) (0 : Int64)))))])) _
    refine XS.lcmp X36.here hx rfl (hb hby at_144) rfl ?_
    exact k
  obtain ⟨T48, Lq48, X48, N48, e48, pre48⟩ : ∃ (T' : State) (locs' : List Loc), Stand p l e room_1 s m #[(.int i1), (.int i2), (.int i3), (.int i4), (.int i5), (.int i6)] below meth c T' locs' 4 12 ∧ Fr n0 locs' ∧ T'.heap = T25.heap ∧ ∀ t, Steps p.tables e below (T'.setTop (mkF m 174 #[.val (.int i1), .val (.int i2), .val (.int i3), .val (.int i4), .val (.int i5), .val (.int i6), .val (.int (i1 &&& (1 : Int32))), .val (.int (i3 &&& (1 : Int32))), .val (.int (i5 &&& (1 : Int32))), .val (.int (i2 &&& (63 : Int32))), .val (.int (i4 &&& (63 : Int32))), .val (.int (i6 &&& (63 : Int32))), .val (.ref b1), .val (.long (((own_r10 (i1 &&& (1 : Int32)) (0 : Int32) (i2 &&& (63 : Int32))) ||| (own_r10 (i3 &&& (1 : Int32)) (0 : Int32) (i4 &&& (63 : Int32)))) ||| (own_r10 (i5 &&& (1 : Int32)) (0 : Int32) (i6 &&& (63 : Int32))))), .second, .val (.long (((own_r10 (i1 &&& (1 : Int32)) (1 : Int32) (i2 &&& (63 : Int32))) ||| (own_r10 (i3 &&& (1 : Int32)) (1 : Int32) (i4 &&& (63 : Int32)))) ||| (own_r10 (i5 &&& (1 : Int32)) (1 : Int32) (i6 &&& (63 : Int32))))), .second] [(.int (own_j0_145_0 i1 i2 i3 i4 i5 i6))])) t → Steps p.tables e below (s₁.setTop (entryFrame m #[(.int i1), (.int i2), (.int i3), (.int i4), (.int i5), (.int i6)] maxLocals)) t := by
    by_cases hc145_39 : (own_v9_w_bits_r0_0 (i5 &&& (1 : Int32)) (i6 &&& (63 : Int32)) (1 : Int32) (own_v9_w_bits_r0_0 (i3 &&& (1 : Int32)) (i4 &&& (63 : Int32)) (1 : Int32) (own_v9_w_bits_r0_0 (i1 &&& (1 : Int32)) (i2 &&& (63 : Int32)) (1 : Int32) (0 : Int64)))) = (((own_r10 (i1 &&& (1 : Int32)) (0 : Int32) (i2 &&& (63 : Int32))) ||| (own_r10 (i3 &&& (1 : Int32)) (0 : Int32) (i4 &&& (63 : Int32)))) ||| (own_r10 (i5 &&& (1 : Int32)) (0 : Int32) (i6 &&& (63 : Int32))))
    · obtain ⟨cq40, kq40, q40a, q40b, q40c⟩ := isOf hZ e36 f37
      obtain ⟨_, _, ⟨T40, L40, k40, n40⟩, -, X40, ⟨Lc40, hQ40, l40, y40, z40⟩, st40⟩ := X36.virtualBack hx (y := (⟨"com/example/fairmesh/fairmesh/node/AskedChunks", "word", "(II)J"⟩ : MethodName)) (z := (⟨"com/example/fairmesh/fairmesh/node/AskedChunks", "word", "(II)J"⟩ : MethodName)) hown (mvT hZ (hw _ (List.mem_of_getElem? (i := 69) rfl))) (mvT hZ (hw _ (List.mem_of_getElem? (i := 70) rfl))) (notFace_of_selects (args := #[]) (mvT hZ (hw _ (List.mem_of_getElem? (i := 72) rfl)))) (mvT hZ (hw _ (List.mem_of_getElem? (i := 72) rfl))) (mvT hZ (hw _ (List.mem_of_getElem? (i := 71) rfl))) (by decide) (backOf (W := 0) (rm11a l Z a0 hw [] b1 b14_2 (own_v9_w_bits_r0_0 (i5 &&& (1 : Int32)) (i6 &&& (63 : Int32)) (1 : Int32) (own_v9_w_bits_r0_0 (i3 &&& (1 : Int32)) (i4 &&& (63 : Int32)) (1 : Int32) (own_v9_w_bits_r0_0 (i1 &&& (1 : Int32)) (i2 &&& (63 : Int32)) (1 : Int32) (0 : Int64)))) (own_v9_w_bits_r0_1 (i5 &&& (1 : Int32)) (i6 &&& (63 : Int32)) (1 : Int32) (own_v9_w_bits_r0_1 (i3 &&& (1 : Int32)) (i4 &&& (63 : Int32)) (1 : Int32) (own_v9_w_bits_r0_1 (i1 &&& (1 : Int32)) (i2 &&& (63 : Int32)) (1 : Int32) (0 : Int64)))) k14_3 T25.heap n0 (Nat.le_trans Z0 K27.1) f34 f35 f25_0) hZ (hw _ (List.mem_of_getElem? (i := 73) rfl)) (hw _ (List.mem_of_getElem? (i := 2) rfl)) (by decide) (by decide)) q40a q40c (g := (mkF m 152 #[.val (.int i1), .val (.int i2), .val (.int i3), .val (.int i4), .val (.int i5), .val (.int i6), .val (.int (i1 &&& (1 : Int32))), .val (.int (i3 &&& (1 : Int32))), .val (.int (i5 &&& (1 : Int32))), .val (.int (i2 &&& (63 : Int32))), .val (.int (i4 &&& (63 : Int32))), .val (.int (i6 &&& (63 : Int32))), .val (.ref b1), .val (.long (((own_r10 (i1 &&& (1 : Int32)) (0 : Int32) (i2 &&& (63 : Int32))) ||| (own_r10 (i3 &&& (1 : Int32)) (0 : Int32) (i4 &&& (63 : Int32)))) ||| (own_r10 (i5 &&& (1 : Int32)) (0 : Int32) (i6 &&& (63 : Int32))))), .second, .val (.long (((own_r10 (i1 &&& (1 : Int32)) (1 : Int32) (i2 &&& (63 : Int32))) ||| (own_r10 (i3 &&& (1 : Int32)) (1 : Int32) (i4 &&& (63 : Int32)))) ||| (own_r10 (i5 &&& (1 : Int32)) (1 : Int32) (i6 &&& (63 : Int32))))), .second] [(.int (0 : Int32)), (.int (1 : Int32)), (.ref b1)])) rfl (by rw [hml]; rfl) (Steps.refl _) (argsL := [(.int (1 : Int32)), (.int (0 : Int32))]) (rest := []) (lenOf pd_7 rfl) rfl (by show 2 * 0 + _ ≤ _; exact Nat.le_of_eq rfl) (hb hby at_152) (fun _ _ => ⟨rfl, e36, (by decide : 4 + 0 ≤ _), (by decide : 12 + 0 ≤ _)⟩)
      dsimp only [Pt.U, Pt.locs, Pt.cells, Pt.slots] at X40 l40 y40 z40 st40 hQ40
      subst l40 y40 z40
      obtain ⟨rfl, Nq40, e40⟩ := hQ40
      have N40 := Fr.app N36 Nq40
      have pre41 : ∀ t, Steps p.tables e below (T40.setTop (mkF m 158 #[.val (.int i1), .val (.int i2), .val (.int i3), .val (.int i4), .val (.int i5), .val (.int i6), .val (.int (i1 &&& (1 : Int32))), .val (.int (i3 &&& (1 : Int32))), .val (.int (i5 &&& (1 : Int32))), .val (.int (i2 &&& (63 : Int32))), .val (.int (i4 &&& (63 : Int32))), .val (.int (i6 &&& (63 : Int32))), .val (.ref b1), .val (.long (((own_r10 (i1 &&& (1 : Int32)) (0 : Int32) (i2 &&& (63 : Int32))) ||| (own_r10 (i3 &&& (1 : Int32)) (0 : Int32) (i4 &&& (63 : Int32)))) ||| (own_r10 (i5 &&& (1 : Int32)) (0 : Int32) (i6 &&& (63 : Int32))))), .second, .val (.long (((own_r10 (i1 &&& (1 : Int32)) (1 : Int32) (i2 &&& (63 : Int32))) ||| (own_r10 (i3 &&& (1 : Int32)) (1 : Int32) (i4 &&& (63 : Int32)))) ||| (own_r10 (i5 &&& (1 : Int32)) (1 : Int32) (i6 &&& (63 : Int32))))), .second] [(.int (lcmpW (own_v9_w_bits_r0_1 (i5 &&& (1 : Int32)) (i6 &&& (63 : Int32)) (1 : Int32) (own_v9_w_bits_r0_1 (i3 &&& (1 : Int32)) (i4 &&& (63 : Int32)) (1 : Int32) (own_v9_w_bits_r0_1 (i1 &&& (1 : Int32)) (i2 &&& (63 : Int32)) (1 : Int32) (0 : Int64)))) (((own_r10 (i1 &&& (1 : Int32)) (1 : Int32) (i2 &&& (63 : Int32))) ||| (own_r10 (i3 &&& (1 : Int32)) (1 : Int32) (i4 &&& (63 : Int32)))) ||| (own_r10 (i5 &&& (1 : Int32)) (1 : Int32) (i6 &&& (63 : Int32))))))])) t → Steps p.tables e below (s₁.setTop (entryFrame m #[(.int i1), (.int i2), (.int i3), (.int i4), (.int i5), (.int i6)] maxLocals)) t := by
        intro t k
        refine pre38 _ ?_
        show Steps p.tables e below (T36.setTop (mkF m 145 #[.val (.int i1), .val (.int i2), .val (.int i3), .val (.int i4), .val (.int i5), .val (.int i6), .val (.int (i1 &&& (1 : Int32))), .val (.int (i3 &&& (1 : Int32))), .val (.int (i5 &&& (1 : Int32))), .val (.int (i2 &&& (63 : Int32))), .val (.int (i4 &&& (63 : Int32))), .val (.int (i6 &&& (63 : Int32))), .val (.ref b1), .val (.long (((own_r10 (i1 &&& (1 : Int32)) (0 : Int32) (i2 &&& (63 : Int32))) ||| (own_r10 (i3 &&& (1 : Int32)) (0 : Int32) (i4 &&& (63 : Int32)))) ||| (own_r10 (i5 &&& (1 : Int32)) (0 : Int32) (i6 &&& (63 : Int32))))), .second, .val (.long (((own_r10 (i1 &&& (1 : Int32)) (1 : Int32) (i2 &&& (63 : Int32))) ||| (own_r10 (i3 &&& (1 : Int32)) (1 : Int32) (i4 &&& (63 : Int32)))) ||| (own_r10 (i5 &&& (1 : Int32)) (1 : Int32) (i6 &&& (63 : Int32))))), .second] [(.int (lcmpW (own_v9_w_bits_r0_0 (i5 &&& (1 : Int32)) (i6 &&& (63 : Int32)) (1 : Int32) (own_v9_w_bits_r0_0 (i3 &&& (1 : Int32)) (i4 &&& (63 : Int32)) (1 : Int32) (own_v9_w_bits_r0_0 (i1 &&& (1 : Int32)) (i2 &&& (63 : Int32)) (1 : Int32) (0 : Int64)))) (((own_r10 (i1 &&& (1 : Int32)) (0 : Int32) (i2 &&& (63 : Int32))) ||| (own_r10 (i3 &&& (1 : Int32)) (0 : Int32) (i4 &&& (63 : Int32)))) ||| (own_r10 (i5 &&& (1 : Int32)) (0 : Int32) (i6 &&& (63 : Int32))))))])) _
        refine XS.ifNo X36.here hx rfl (hb hby at_145) rfl ((if0 _ _).trans (teq ((lw_eq (own_v9_w_bits_r0_0 (i5 &&& (1 : Int32)) (i6 &&& (63 : Int32)) (1 : Int32) (own_v9_w_bits_r0_0 (i3 &&& (1 : Int32)) (i4 &&& (63 : Int32)) (1 : Int32) (own_v9_w_bits_r0_0 (i1 &&& (1 : Int32)) (i2 &&& (63 : Int32)) (1 : Int32) (0 : Int64)))) (((own_r10 (i1 &&& (1 : Int32)) (0 : Int32) (i2 &&& (63 : Int32))) ||| (own_r10 (i3 &&& (1 : Int32)) (0 : Int32) (i4 &&& (63 : Int32)))) ||| (own_r10 (i5 &&& (1 : Int32)) (0 : Int32) (i6 &&& (63 : Int32))))).mpr hc145_39)).2) ?_
        show Steps p.tables e below (T36.setTop (mkF m 148 #[.val (.int i1), .val (.int i2), .val (.int i3), .val (.int i4), .val (.int i5), .val (.int i6), .val (.int (i1 &&& (1 : Int32))), .val (.int (i3 &&& (1 : Int32))), .val (.int (i5 &&& (1 : Int32))), .val (.int (i2 &&& (63 : Int32))), .val (.int (i4 &&& (63 : Int32))), .val (.int (i6 &&& (63 : Int32))), .val (.ref b1), .val (.long (((own_r10 (i1 &&& (1 : Int32)) (0 : Int32) (i2 &&& (63 : Int32))) ||| (own_r10 (i3 &&& (1 : Int32)) (0 : Int32) (i4 &&& (63 : Int32)))) ||| (own_r10 (i5 &&& (1 : Int32)) (0 : Int32) (i6 &&& (63 : Int32))))), .second, .val (.long (((own_r10 (i1 &&& (1 : Int32)) (1 : Int32) (i2 &&& (63 : Int32))) ||| (own_r10 (i3 &&& (1 : Int32)) (1 : Int32) (i4 &&& (63 : Int32)))) ||| (own_r10 (i5 &&& (1 : Int32)) (1 : Int32) (i6 &&& (63 : Int32))))), .second] [])) _
        refine XS.aload X36.here hx rfl (hb hby at_148) rfl rfl ?_
        show Steps p.tables e below (T36.setTop (mkF m 150 #[.val (.int i1), .val (.int i2), .val (.int i3), .val (.int i4), .val (.int i5), .val (.int i6), .val (.int (i1 &&& (1 : Int32))), .val (.int (i3 &&& (1 : Int32))), .val (.int (i5 &&& (1 : Int32))), .val (.int (i2 &&& (63 : Int32))), .val (.int (i4 &&& (63 : Int32))), .val (.int (i6 &&& (63 : Int32))), .val (.ref b1), .val (.long (((own_r10 (i1 &&& (1 : Int32)) (0 : Int32) (i2 &&& (63 : Int32))) ||| (own_r10 (i3 &&& (1 : Int32)) (0 : Int32) (i4 &&& (63 : Int32)))) ||| (own_r10 (i5 &&& (1 : Int32)) (0 : Int32) (i6 &&& (63 : Int32))))), .second, .val (.long (((own_r10 (i1 &&& (1 : Int32)) (1 : Int32) (i2 &&& (63 : Int32))) ||| (own_r10 (i3 &&& (1 : Int32)) (1 : Int32) (i4 &&& (63 : Int32)))) ||| (own_r10 (i5 &&& (1 : Int32)) (1 : Int32) (i6 &&& (63 : Int32))))), .second] [(.ref b1)])) _
        refine XS.iconst X36.here hx rfl (hb hby at_150) ?_
        show Steps p.tables e below (T36.setTop (mkF m 151 #[.val (.int i1), .val (.int i2), .val (.int i3), .val (.int i4), .val (.int i5), .val (.int i6), .val (.int (i1 &&& (1 : Int32))), .val (.int (i3 &&& (1 : Int32))), .val (.int (i5 &&& (1 : Int32))), .val (.int (i2 &&& (63 : Int32))), .val (.int (i4 &&& (63 : Int32))), .val (.int (i6 &&& (63 : Int32))), .val (.ref b1), .val (.long (((own_r10 (i1 &&& (1 : Int32)) (0 : Int32) (i2 &&& (63 : Int32))) ||| (own_r10 (i3 &&& (1 : Int32)) (0 : Int32) (i4 &&& (63 : Int32)))) ||| (own_r10 (i5 &&& (1 : Int32)) (0 : Int32) (i6 &&& (63 : Int32))))), .second, .val (.long (((own_r10 (i1 &&& (1 : Int32)) (1 : Int32) (i2 &&& (63 : Int32))) ||| (own_r10 (i3 &&& (1 : Int32)) (1 : Int32) (i4 &&& (63 : Int32)))) ||| (own_r10 (i5 &&& (1 : Int32)) (1 : Int32) (i6 &&& (63 : Int32))))), .second] [(.int (1 : Int32)), (.ref b1)])) _
        refine XS.iconst X36.here hx rfl (hb hby at_151) ?_
        show Steps p.tables e below (T36.setTop (mkF m 152 #[.val (.int i1), .val (.int i2), .val (.int i3), .val (.int i4), .val (.int i5), .val (.int i6), .val (.int (i1 &&& (1 : Int32))), .val (.int (i3 &&& (1 : Int32))), .val (.int (i5 &&& (1 : Int32))), .val (.int (i2 &&& (63 : Int32))), .val (.int (i4 &&& (63 : Int32))), .val (.int (i6 &&& (63 : Int32))), .val (.ref b1), .val (.long (((own_r10 (i1 &&& (1 : Int32)) (0 : Int32) (i2 &&& (63 : Int32))) ||| (own_r10 (i3 &&& (1 : Int32)) (0 : Int32) (i4 &&& (63 : Int32)))) ||| (own_r10 (i5 &&& (1 : Int32)) (0 : Int32) (i6 &&& (63 : Int32))))), .second, .val (.long (((own_r10 (i1 &&& (1 : Int32)) (1 : Int32) (i2 &&& (63 : Int32))) ||| (own_r10 (i3 &&& (1 : Int32)) (1 : Int32) (i4 &&& (63 : Int32)))) ||| (own_r10 (i5 &&& (1 : Int32)) (1 : Int32) (i6 &&& (63 : Int32))))), .second] [(.int (0 : Int32)), (.int (1 : Int32)), (.ref b1)])) _
        refine st40.trans ?_
        show Steps p.tables e below (T40.setTop (mkF m 155 #[.val (.int i1), .val (.int i2), .val (.int i3), .val (.int i4), .val (.int i5), .val (.int i6), .val (.int (i1 &&& (1 : Int32))), .val (.int (i3 &&& (1 : Int32))), .val (.int (i5 &&& (1 : Int32))), .val (.int (i2 &&& (63 : Int32))), .val (.int (i4 &&& (63 : Int32))), .val (.int (i6 &&& (63 : Int32))), .val (.ref b1), .val (.long (((own_r10 (i1 &&& (1 : Int32)) (0 : Int32) (i2 &&& (63 : Int32))) ||| (own_r10 (i3 &&& (1 : Int32)) (0 : Int32) (i4 &&& (63 : Int32)))) ||| (own_r10 (i5 &&& (1 : Int32)) (0 : Int32) (i6 &&& (63 : Int32))))), .second, .val (.long (((own_r10 (i1 &&& (1 : Int32)) (1 : Int32) (i2 &&& (63 : Int32))) ||| (own_r10 (i3 &&& (1 : Int32)) (1 : Int32) (i4 &&& (63 : Int32)))) ||| (own_r10 (i5 &&& (1 : Int32)) (1 : Int32) (i6 &&& (63 : Int32))))), .second] [(.long (own_v9_w_bits_r0_1 (i5 &&& (1 : Int32)) (i6 &&& (63 : Int32)) (1 : Int32) (own_v9_w_bits_r0_1 (i3 &&& (1 : Int32)) (i4 &&& (63 : Int32)) (1 : Int32) (own_v9_w_bits_r0_1 (i1 &&& (1 : Int32)) (i2 &&& (63 : Int32)) (1 : Int32) (0 : Int64)))))])) _
        refine XS.lload X40.here hx rfl (hb hby at_155) rfl ?_
        show Steps p.tables e below (T40.setTop (mkF m 157 #[.val (.int i1), .val (.int i2), .val (.int i3), .val (.int i4), .val (.int i5), .val (.int i6), .val (.int (i1 &&& (1 : Int32))), .val (.int (i3 &&& (1 : Int32))), .val (.int (i5 &&& (1 : Int32))), .val (.int (i2 &&& (63 : Int32))), .val (.int (i4 &&& (63 : Int32))), .val (.int (i6 &&& (63 : Int32))), .val (.ref b1), .val (.long (((own_r10 (i1 &&& (1 : Int32)) (0 : Int32) (i2 &&& (63 : Int32))) ||| (own_r10 (i3 &&& (1 : Int32)) (0 : Int32) (i4 &&& (63 : Int32)))) ||| (own_r10 (i5 &&& (1 : Int32)) (0 : Int32) (i6 &&& (63 : Int32))))), .second, .val (.long (((own_r10 (i1 &&& (1 : Int32)) (1 : Int32) (i2 &&& (63 : Int32))) ||| (own_r10 (i3 &&& (1 : Int32)) (1 : Int32) (i4 &&& (63 : Int32)))) ||| (own_r10 (i5 &&& (1 : Int32)) (1 : Int32) (i6 &&& (63 : Int32))))), .second] [(.long (((own_r10 (i1 &&& (1 : Int32)) (1 : Int32) (i2 &&& (63 : Int32))) ||| (own_r10 (i3 &&& (1 : Int32)) (1 : Int32) (i4 &&& (63 : Int32)))) ||| (own_r10 (i5 &&& (1 : Int32)) (1 : Int32) (i6 &&& (63 : Int32))))), (.long (own_v9_w_bits_r0_1 (i5 &&& (1 : Int32)) (i6 &&& (63 : Int32)) (1 : Int32) (own_v9_w_bits_r0_1 (i3 &&& (1 : Int32)) (i4 &&& (63 : Int32)) (1 : Int32) (own_v9_w_bits_r0_1 (i1 &&& (1 : Int32)) (i2 &&& (63 : Int32)) (1 : Int32) (0 : Int64)))))])) _
        refine XS.lcmp X40.here hx rfl (hb hby at_157) rfl ?_
        exact k
      by_cases hc158_42 : (own_v9_w_bits_r0_1 (i5 &&& (1 : Int32)) (i6 &&& (63 : Int32)) (1 : Int32) (own_v9_w_bits_r0_1 (i3 &&& (1 : Int32)) (i4 &&& (63 : Int32)) (1 : Int32) (own_v9_w_bits_r0_1 (i1 &&& (1 : Int32)) (i2 &&& (63 : Int32)) (1 : Int32) (0 : Int64)))) = (((own_r10 (i1 &&& (1 : Int32)) (1 : Int32) (i2 &&& (63 : Int32))) ||| (own_r10 (i3 &&& (1 : Int32)) (1 : Int32) (i4 &&& (63 : Int32)))) ||| (own_r10 (i5 &&& (1 : Int32)) (1 : Int32) (i6 &&& (63 : Int32))))
      · have f43 := (((f14_7.keep Kq16 (ninS (Nat.ne_of_lt (Nat.lt_of_lt_of_le A1.lt (Nat.le_trans (Nat.le_trans E3.1 Kq6.1) sq14_2))) nin0)).keep Kq20 (ninS (Nat.ne_of_lt (Nat.lt_of_lt_of_le A1.lt (Nat.le_trans (Nat.le_trans E3.1 Kq6.1) sq14_2))) nin0)).keep Kq25 (ninS (Nat.ne_of_lt (Nat.lt_of_lt_of_le A1.lt (Nat.le_trans (Nat.le_trans E3.1 Kq6.1) sq14_2))) nin0))
        obtain ⟨cq44, kq44, q44a, q44b, q44c⟩ := isOf hZ e40 f37
        obtain ⟨_, _, ⟨T44, L44, k44, n44⟩, -, X44, ⟨Lc44, hQ44, l44, y44, z44⟩, st44⟩ := X40.virtualBack hx (y := (⟨"com/example/fairmesh/fairmesh/node/AskedChunks", "size", "()I"⟩ : MethodName)) (z := (⟨"com/example/fairmesh/fairmesh/node/AskedChunks", "size", "()I"⟩ : MethodName)) hown (mvT hZ (hw _ (List.mem_of_getElem? (i := 74) rfl))) (mvT hZ (hw _ (List.mem_of_getElem? (i := 75) rfl))) (notFace_of_selects (args := #[]) (mvT hZ (hw _ (List.mem_of_getElem? (i := 77) rfl)))) (mvT hZ (hw _ (List.mem_of_getElem? (i := 77) rfl))) (mvT hZ (hw _ (List.mem_of_getElem? (i := 76) rfl))) (by decide) (backOf (W := 0) (rm12 l Z a0 hw [] b1 T25.heap n0 (Nat.le_trans Z0 K27.1) f43) hZ (hw _ (List.mem_of_getElem? (i := 78) rfl)) (hw _ (List.mem_of_getElem? (i := 2) rfl)) (by decide) (by decide)) q44a q44c (g := (mkF m 163 #[.val (.int i1), .val (.int i2), .val (.int i3), .val (.int i4), .val (.int i5), .val (.int i6), .val (.int (i1 &&& (1 : Int32))), .val (.int (i3 &&& (1 : Int32))), .val (.int (i5 &&& (1 : Int32))), .val (.int (i2 &&& (63 : Int32))), .val (.int (i4 &&& (63 : Int32))), .val (.int (i6 &&& (63 : Int32))), .val (.ref b1), .val (.long (((own_r10 (i1 &&& (1 : Int32)) (0 : Int32) (i2 &&& (63 : Int32))) ||| (own_r10 (i3 &&& (1 : Int32)) (0 : Int32) (i4 &&& (63 : Int32)))) ||| (own_r10 (i5 &&& (1 : Int32)) (0 : Int32) (i6 &&& (63 : Int32))))), .second, .val (.long (((own_r10 (i1 &&& (1 : Int32)) (1 : Int32) (i2 &&& (63 : Int32))) ||| (own_r10 (i3 &&& (1 : Int32)) (1 : Int32) (i4 &&& (63 : Int32)))) ||| (own_r10 (i5 &&& (1 : Int32)) (1 : Int32) (i6 &&& (63 : Int32))))), .second] [(.ref b1)])) rfl (by rw [hml]; rfl) (Steps.refl _) (argsL := []) (rest := []) (lenOf pd_1 rfl) rfl (by show 2 * 0 + _ ≤ _; exact Nat.le_of_eq rfl) (hb hby at_163) (fun _ _ => ⟨rfl, e40, (by decide : 4 + 0 ≤ _), (by decide : 12 + 0 ≤ _)⟩)
        dsimp only [Pt.U, Pt.locs, Pt.cells, Pt.slots] at X44 l44 y44 z44 st44 hQ44
        subst l44 y44 z44
        obtain ⟨rfl, Nq44, e44⟩ := hQ44
        have N44 := Fr.app N40 Nq44
        have pre45 : ∀ t, Steps p.tables e below (T44.setTop (mkF m 174 #[.val (.int i1), .val (.int i2), .val (.int i3), .val (.int i4), .val (.int i5), .val (.int i6), .val (.int (i1 &&& (1 : Int32))), .val (.int (i3 &&& (1 : Int32))), .val (.int (i5 &&& (1 : Int32))), .val (.int (i2 &&& (63 : Int32))), .val (.int (i4 &&& (63 : Int32))), .val (.int (i6 &&& (63 : Int32))), .val (.ref b1), .val (.long (((own_r10 (i1 &&& (1 : Int32)) (0 : Int32) (i2 &&& (63 : Int32))) ||| (own_r10 (i3 &&& (1 : Int32)) (0 : Int32) (i4 &&& (63 : Int32)))) ||| (own_r10 (i5 &&& (1 : Int32)) (0 : Int32) (i6 &&& (63 : Int32))))), .second, .val (.long (((own_r10 (i1 &&& (1 : Int32)) (1 : Int32) (i2 &&& (63 : Int32))) ||| (own_r10 (i3 &&& (1 : Int32)) (1 : Int32) (i4 &&& (63 : Int32)))) ||| (own_r10 (i5 &&& (1 : Int32)) (1 : Int32) (i6 &&& (63 : Int32))))), .second] [(.int (1 : Int32))])) t → Steps p.tables e below (s₁.setTop (entryFrame m #[(.int i1), (.int i2), (.int i3), (.int i4), (.int i5), (.int i6)] maxLocals)) t := by
          intro t k
          refine pre41 _ ?_
          show Steps p.tables e below (T40.setTop (mkF m 158 #[.val (.int i1), .val (.int i2), .val (.int i3), .val (.int i4), .val (.int i5), .val (.int i6), .val (.int (i1 &&& (1 : Int32))), .val (.int (i3 &&& (1 : Int32))), .val (.int (i5 &&& (1 : Int32))), .val (.int (i2 &&& (63 : Int32))), .val (.int (i4 &&& (63 : Int32))), .val (.int (i6 &&& (63 : Int32))), .val (.ref b1), .val (.long (((own_r10 (i1 &&& (1 : Int32)) (0 : Int32) (i2 &&& (63 : Int32))) ||| (own_r10 (i3 &&& (1 : Int32)) (0 : Int32) (i4 &&& (63 : Int32)))) ||| (own_r10 (i5 &&& (1 : Int32)) (0 : Int32) (i6 &&& (63 : Int32))))), .second, .val (.long (((own_r10 (i1 &&& (1 : Int32)) (1 : Int32) (i2 &&& (63 : Int32))) ||| (own_r10 (i3 &&& (1 : Int32)) (1 : Int32) (i4 &&& (63 : Int32)))) ||| (own_r10 (i5 &&& (1 : Int32)) (1 : Int32) (i6 &&& (63 : Int32))))), .second] [(.int (lcmpW (own_v9_w_bits_r0_1 (i5 &&& (1 : Int32)) (i6 &&& (63 : Int32)) (1 : Int32) (own_v9_w_bits_r0_1 (i3 &&& (1 : Int32)) (i4 &&& (63 : Int32)) (1 : Int32) (own_v9_w_bits_r0_1 (i1 &&& (1 : Int32)) (i2 &&& (63 : Int32)) (1 : Int32) (0 : Int64)))) (((own_r10 (i1 &&& (1 : Int32)) (1 : Int32) (i2 &&& (63 : Int32))) ||| (own_r10 (i3 &&& (1 : Int32)) (1 : Int32) (i4 &&& (63 : Int32)))) ||| (own_r10 (i5 &&& (1 : Int32)) (1 : Int32) (i6 &&& (63 : Int32))))))])) _
          refine XS.ifNo X40.here hx rfl (hb hby at_158) rfl ((if0 _ _).trans (teq ((lw_eq (own_v9_w_bits_r0_1 (i5 &&& (1 : Int32)) (i6 &&& (63 : Int32)) (1 : Int32) (own_v9_w_bits_r0_1 (i3 &&& (1 : Int32)) (i4 &&& (63 : Int32)) (1 : Int32) (own_v9_w_bits_r0_1 (i1 &&& (1 : Int32)) (i2 &&& (63 : Int32)) (1 : Int32) (0 : Int64)))) (((own_r10 (i1 &&& (1 : Int32)) (1 : Int32) (i2 &&& (63 : Int32))) ||| (own_r10 (i3 &&& (1 : Int32)) (1 : Int32) (i4 &&& (63 : Int32)))) ||| (own_r10 (i5 &&& (1 : Int32)) (1 : Int32) (i6 &&& (63 : Int32))))).mpr hc158_42)).2) ?_
          show Steps p.tables e below (T40.setTop (mkF m 161 #[.val (.int i1), .val (.int i2), .val (.int i3), .val (.int i4), .val (.int i5), .val (.int i6), .val (.int (i1 &&& (1 : Int32))), .val (.int (i3 &&& (1 : Int32))), .val (.int (i5 &&& (1 : Int32))), .val (.int (i2 &&& (63 : Int32))), .val (.int (i4 &&& (63 : Int32))), .val (.int (i6 &&& (63 : Int32))), .val (.ref b1), .val (.long (((own_r10 (i1 &&& (1 : Int32)) (0 : Int32) (i2 &&& (63 : Int32))) ||| (own_r10 (i3 &&& (1 : Int32)) (0 : Int32) (i4 &&& (63 : Int32)))) ||| (own_r10 (i5 &&& (1 : Int32)) (0 : Int32) (i6 &&& (63 : Int32))))), .second, .val (.long (((own_r10 (i1 &&& (1 : Int32)) (1 : Int32) (i2 &&& (63 : Int32))) ||| (own_r10 (i3 &&& (1 : Int32)) (1 : Int32) (i4 &&& (63 : Int32)))) ||| (own_r10 (i5 &&& (1 : Int32)) (1 : Int32) (i6 &&& (63 : Int32))))), .second] [])) _
          refine XS.aload X40.here hx rfl (hb hby at_161) rfl rfl ?_
          show Steps p.tables e below (T40.setTop (mkF m 163 #[.val (.int i1), .val (.int i2), .val (.int i3), .val (.int i4), .val (.int i5), .val (.int i6), .val (.int (i1 &&& (1 : Int32))), .val (.int (i3 &&& (1 : Int32))), .val (.int (i5 &&& (1 : Int32))), .val (.int (i2 &&& (63 : Int32))), .val (.int (i4 &&& (63 : Int32))), .val (.int (i6 &&& (63 : Int32))), .val (.ref b1), .val (.long (((own_r10 (i1 &&& (1 : Int32)) (0 : Int32) (i2 &&& (63 : Int32))) ||| (own_r10 (i3 &&& (1 : Int32)) (0 : Int32) (i4 &&& (63 : Int32)))) ||| (own_r10 (i5 &&& (1 : Int32)) (0 : Int32) (i6 &&& (63 : Int32))))), .second, .val (.long (((own_r10 (i1 &&& (1 : Int32)) (1 : Int32) (i2 &&& (63 : Int32))) ||| (own_r10 (i3 &&& (1 : Int32)) (1 : Int32) (i4 &&& (63 : Int32)))) ||| (own_r10 (i5 &&& (1 : Int32)) (1 : Int32) (i6 &&& (63 : Int32))))), .second] [(.ref b1)])) _
          refine st44.trans ?_
          show Steps p.tables e below (T44.setTop (mkF m 166 #[.val (.int i1), .val (.int i2), .val (.int i3), .val (.int i4), .val (.int i5), .val (.int i6), .val (.int (i1 &&& (1 : Int32))), .val (.int (i3 &&& (1 : Int32))), .val (.int (i5 &&& (1 : Int32))), .val (.int (i2 &&& (63 : Int32))), .val (.int (i4 &&& (63 : Int32))), .val (.int (i6 &&& (63 : Int32))), .val (.ref b1), .val (.long (((own_r10 (i1 &&& (1 : Int32)) (0 : Int32) (i2 &&& (63 : Int32))) ||| (own_r10 (i3 &&& (1 : Int32)) (0 : Int32) (i4 &&& (63 : Int32)))) ||| (own_r10 (i5 &&& (1 : Int32)) (0 : Int32) (i6 &&& (63 : Int32))))), .second, .val (.long (((own_r10 (i1 &&& (1 : Int32)) (1 : Int32) (i2 &&& (63 : Int32))) ||| (own_r10 (i3 &&& (1 : Int32)) (1 : Int32) (i4 &&& (63 : Int32)))) ||| (own_r10 (i5 &&& (1 : Int32)) (1 : Int32) (i6 &&& (63 : Int32))))), .second] [(.int (0 : Int32))])) _
          refine XS.ifNo X44.here hx rfl (hb hby at_166) rfl ((if0 _ _).trans (teq (by decide : (0 : Int32) = (0 : Int32))).2) ?_
          show Steps p.tables e below (T44.setTop (mkF m 169 #[.val (.int i1), .val (.int i2), .val (.int i3), .val (.int i4), .val (.int i5), .val (.int i6), .val (.int (i1 &&& (1 : Int32))), .val (.int (i3 &&& (1 : Int32))), .val (.int (i5 &&& (1 : Int32))), .val (.int (i2 &&& (63 : Int32))), .val (.int (i4 &&& (63 : Int32))), .val (.int (i6 &&& (63 : Int32))), .val (.ref b1), .val (.long (((own_r10 (i1 &&& (1 : Int32)) (0 : Int32) (i2 &&& (63 : Int32))) ||| (own_r10 (i3 &&& (1 : Int32)) (0 : Int32) (i4 &&& (63 : Int32)))) ||| (own_r10 (i5 &&& (1 : Int32)) (0 : Int32) (i6 &&& (63 : Int32))))), .second, .val (.long (((own_r10 (i1 &&& (1 : Int32)) (1 : Int32) (i2 &&& (63 : Int32))) ||| (own_r10 (i3 &&& (1 : Int32)) (1 : Int32) (i4 &&& (63 : Int32)))) ||| (own_r10 (i5 &&& (1 : Int32)) (1 : Int32) (i6 &&& (63 : Int32))))), .second] [])) _
          refine XS.iconst X44.here hx rfl (hb hby at_169) ?_
          show Steps p.tables e below (T44.setTop (mkF m 170 #[.val (.int i1), .val (.int i2), .val (.int i3), .val (.int i4), .val (.int i5), .val (.int i6), .val (.int (i1 &&& (1 : Int32))), .val (.int (i3 &&& (1 : Int32))), .val (.int (i5 &&& (1 : Int32))), .val (.int (i2 &&& (63 : Int32))), .val (.int (i4 &&& (63 : Int32))), .val (.int (i6 &&& (63 : Int32))), .val (.ref b1), .val (.long (((own_r10 (i1 &&& (1 : Int32)) (0 : Int32) (i2 &&& (63 : Int32))) ||| (own_r10 (i3 &&& (1 : Int32)) (0 : Int32) (i4 &&& (63 : Int32)))) ||| (own_r10 (i5 &&& (1 : Int32)) (0 : Int32) (i6 &&& (63 : Int32))))), .second, .val (.long (((own_r10 (i1 &&& (1 : Int32)) (1 : Int32) (i2 &&& (63 : Int32))) ||| (own_r10 (i3 &&& (1 : Int32)) (1 : Int32) (i4 &&& (63 : Int32)))) ||| (own_r10 (i5 &&& (1 : Int32)) (1 : Int32) (i6 &&& (63 : Int32))))), .second] [(.int (1 : Int32))])) _
          refine XS.goto X44.here hx rfl (pc0 := 170) (pc' := 174) rfl (hb hby at_170) (by decide) (by decide) ?_
          exact k
        exact ⟨T44, _, X44, N44, e44, fun t k => pre45 t (by rw [show (own_j0_145_0 i1 i2 i3 i4 i5 i6) = (1 : Int32) from ((if_pos hc145_39).trans (if_pos hc158_42))] at k; exact k)⟩
      · have pre46 : ∀ t, Steps p.tables e below (T40.setTop (mkF m 174 #[.val (.int i1), .val (.int i2), .val (.int i3), .val (.int i4), .val (.int i5), .val (.int i6), .val (.int (i1 &&& (1 : Int32))), .val (.int (i3 &&& (1 : Int32))), .val (.int (i5 &&& (1 : Int32))), .val (.int (i2 &&& (63 : Int32))), .val (.int (i4 &&& (63 : Int32))), .val (.int (i6 &&& (63 : Int32))), .val (.ref b1), .val (.long (((own_r10 (i1 &&& (1 : Int32)) (0 : Int32) (i2 &&& (63 : Int32))) ||| (own_r10 (i3 &&& (1 : Int32)) (0 : Int32) (i4 &&& (63 : Int32)))) ||| (own_r10 (i5 &&& (1 : Int32)) (0 : Int32) (i6 &&& (63 : Int32))))), .second, .val (.long (((own_r10 (i1 &&& (1 : Int32)) (1 : Int32) (i2 &&& (63 : Int32))) ||| (own_r10 (i3 &&& (1 : Int32)) (1 : Int32) (i4 &&& (63 : Int32)))) ||| (own_r10 (i5 &&& (1 : Int32)) (1 : Int32) (i6 &&& (63 : Int32))))), .second] [(.int (0 : Int32))])) t → Steps p.tables e below (s₁.setTop (entryFrame m #[(.int i1), (.int i2), (.int i3), (.int i4), (.int i5), (.int i6)] maxLocals)) t := by
          intro t k
          refine pre41 _ ?_
          show Steps p.tables e below (T40.setTop (mkF m 158 #[.val (.int i1), .val (.int i2), .val (.int i3), .val (.int i4), .val (.int i5), .val (.int i6), .val (.int (i1 &&& (1 : Int32))), .val (.int (i3 &&& (1 : Int32))), .val (.int (i5 &&& (1 : Int32))), .val (.int (i2 &&& (63 : Int32))), .val (.int (i4 &&& (63 : Int32))), .val (.int (i6 &&& (63 : Int32))), .val (.ref b1), .val (.long (((own_r10 (i1 &&& (1 : Int32)) (0 : Int32) (i2 &&& (63 : Int32))) ||| (own_r10 (i3 &&& (1 : Int32)) (0 : Int32) (i4 &&& (63 : Int32)))) ||| (own_r10 (i5 &&& (1 : Int32)) (0 : Int32) (i6 &&& (63 : Int32))))), .second, .val (.long (((own_r10 (i1 &&& (1 : Int32)) (1 : Int32) (i2 &&& (63 : Int32))) ||| (own_r10 (i3 &&& (1 : Int32)) (1 : Int32) (i4 &&& (63 : Int32)))) ||| (own_r10 (i5 &&& (1 : Int32)) (1 : Int32) (i6 &&& (63 : Int32))))), .second] [(.int (lcmpW (own_v9_w_bits_r0_1 (i5 &&& (1 : Int32)) (i6 &&& (63 : Int32)) (1 : Int32) (own_v9_w_bits_r0_1 (i3 &&& (1 : Int32)) (i4 &&& (63 : Int32)) (1 : Int32) (own_v9_w_bits_r0_1 (i1 &&& (1 : Int32)) (i2 &&& (63 : Int32)) (1 : Int32) (0 : Int64)))) (((own_r10 (i1 &&& (1 : Int32)) (1 : Int32) (i2 &&& (63 : Int32))) ||| (own_r10 (i3 &&& (1 : Int32)) (1 : Int32) (i4 &&& (63 : Int32)))) ||| (own_r10 (i5 &&& (1 : Int32)) (1 : Int32) (i6 &&& (63 : Int32))))))])) _
          refine XS.ifYes X40.here hx rfl (pc0 := 158) (pc' := 173) rfl (hb hby at_158) rfl ((if0 _ _).trans (feq (mt (lw_eq (own_v9_w_bits_r0_1 (i5 &&& (1 : Int32)) (i6 &&& (63 : Int32)) (1 : Int32) (own_v9_w_bits_r0_1 (i3 &&& (1 : Int32)) (i4 &&& (63 : Int32)) (1 : Int32) (own_v9_w_bits_r0_1 (i1 &&& (1 : Int32)) (i2 &&& (63 : Int32)) (1 : Int32) (0 : Int64)))) (((own_r10 (i1 &&& (1 : Int32)) (1 : Int32) (i2 &&& (63 : Int32))) ||| (own_r10 (i3 &&& (1 : Int32)) (1 : Int32) (i4 &&& (63 : Int32)))) ||| (own_r10 (i5 &&& (1 : Int32)) (1 : Int32) (i6 &&& (63 : Int32))))).mp hc158_42)).2) (by decide) (by decide) ?_
          show Steps p.tables e below (T40.setTop (mkF m 173 #[.val (.int i1), .val (.int i2), .val (.int i3), .val (.int i4), .val (.int i5), .val (.int i6), .val (.int (i1 &&& (1 : Int32))), .val (.int (i3 &&& (1 : Int32))), .val (.int (i5 &&& (1 : Int32))), .val (.int (i2 &&& (63 : Int32))), .val (.int (i4 &&& (63 : Int32))), .val (.int (i6 &&& (63 : Int32))), .val (.ref b1), .val (.long (((own_r10 (i1 &&& (1 : Int32)) (0 : Int32) (i2 &&& (63 : Int32))) ||| (own_r10 (i3 &&& (1 : Int32)) (0 : Int32) (i4 &&& (63 : Int32)))) ||| (own_r10 (i5 &&& (1 : Int32)) (0 : Int32) (i6 &&& (63 : Int32))))), .second, .val (.long (((own_r10 (i1 &&& (1 : Int32)) (1 : Int32) (i2 &&& (63 : Int32))) ||| (own_r10 (i3 &&& (1 : Int32)) (1 : Int32) (i4 &&& (63 : Int32)))) ||| (own_r10 (i5 &&& (1 : Int32)) (1 : Int32) (i6 &&& (63 : Int32))))), .second] [])) _
          refine XS.iconst X40.here hx rfl (hb hby at_173) ?_
          exact k
        exact ⟨T40, _, X40, N40, e40, fun t k => pre46 t (by rw [show (own_j0_145_0 i1 i2 i3 i4 i5 i6) = (0 : Int32) from ((if_pos hc145_39).trans (if_neg hc158_42))] at k; exact k)⟩
    · have pre47 : ∀ t, Steps p.tables e below (T36.setTop (mkF m 174 #[.val (.int i1), .val (.int i2), .val (.int i3), .val (.int i4), .val (.int i5), .val (.int i6), .val (.int (i1 &&& (1 : Int32))), .val (.int (i3 &&& (1 : Int32))), .val (.int (i5 &&& (1 : Int32))), .val (.int (i2 &&& (63 : Int32))), .val (.int (i4 &&& (63 : Int32))), .val (.int (i6 &&& (63 : Int32))), .val (.ref b1), .val (.long (((own_r10 (i1 &&& (1 : Int32)) (0 : Int32) (i2 &&& (63 : Int32))) ||| (own_r10 (i3 &&& (1 : Int32)) (0 : Int32) (i4 &&& (63 : Int32)))) ||| (own_r10 (i5 &&& (1 : Int32)) (0 : Int32) (i6 &&& (63 : Int32))))), .second, .val (.long (((own_r10 (i1 &&& (1 : Int32)) (1 : Int32) (i2 &&& (63 : Int32))) ||| (own_r10 (i3 &&& (1 : Int32)) (1 : Int32) (i4 &&& (63 : Int32)))) ||| (own_r10 (i5 &&& (1 : Int32)) (1 : Int32) (i6 &&& (63 : Int32))))), .second] [(.int (0 : Int32))])) t → Steps p.tables e below (s₁.setTop (entryFrame m #[(.int i1), (.int i2), (.int i3), (.int i4), (.int i5), (.int i6)] maxLocals)) t := by
        intro t k
        refine pre38 _ ?_
        show Steps p.tables e below (T36.setTop (mkF m 145 #[.val (.int i1), .val (.int i2), .val (.int i3), .val (.int i4), .val (.int i5), .val (.int i6), .val (.int (i1 &&& (1 : Int32))), .val (.int (i3 &&& (1 : Int32))), .val (.int (i5 &&& (1 : Int32))), .val (.int (i2 &&& (63 : Int32))), .val (.int (i4 &&& (63 : Int32))), .val (.int (i6 &&& (63 : Int32))), .val (.ref b1), .val (.long (((own_r10 (i1 &&& (1 : Int32)) (0 : Int32) (i2 &&& (63 : Int32))) ||| (own_r10 (i3 &&& (1 : Int32)) (0 : Int32) (i4 &&& (63 : Int32)))) ||| (own_r10 (i5 &&& (1 : Int32)) (0 : Int32) (i6 &&& (63 : Int32))))), .second, .val (.long (((own_r10 (i1 &&& (1 : Int32)) (1 : Int32) (i2 &&& (63 : Int32))) ||| (own_r10 (i3 &&& (1 : Int32)) (1 : Int32) (i4 &&& (63 : Int32)))) ||| (own_r10 (i5 &&& (1 : Int32)) (1 : Int32) (i6 &&& (63 : Int32))))), .second] [(.int (lcmpW (own_v9_w_bits_r0_0 (i5 &&& (1 : Int32)) (i6 &&& (63 : Int32)) (1 : Int32) (own_v9_w_bits_r0_0 (i3 &&& (1 : Int32)) (i4 &&& (63 : Int32)) (1 : Int32) (own_v9_w_bits_r0_0 (i1 &&& (1 : Int32)) (i2 &&& (63 : Int32)) (1 : Int32) (0 : Int64)))) (((own_r10 (i1 &&& (1 : Int32)) (0 : Int32) (i2 &&& (63 : Int32))) ||| (own_r10 (i3 &&& (1 : Int32)) (0 : Int32) (i4 &&& (63 : Int32)))) ||| (own_r10 (i5 &&& (1 : Int32)) (0 : Int32) (i6 &&& (63 : Int32))))))])) _
        refine XS.ifYes X36.here hx rfl (pc0 := 145) (pc' := 173) rfl (hb hby at_145) rfl ((if0 _ _).trans (feq (mt (lw_eq (own_v9_w_bits_r0_0 (i5 &&& (1 : Int32)) (i6 &&& (63 : Int32)) (1 : Int32) (own_v9_w_bits_r0_0 (i3 &&& (1 : Int32)) (i4 &&& (63 : Int32)) (1 : Int32) (own_v9_w_bits_r0_0 (i1 &&& (1 : Int32)) (i2 &&& (63 : Int32)) (1 : Int32) (0 : Int64)))) (((own_r10 (i1 &&& (1 : Int32)) (0 : Int32) (i2 &&& (63 : Int32))) ||| (own_r10 (i3 &&& (1 : Int32)) (0 : Int32) (i4 &&& (63 : Int32)))) ||| (own_r10 (i5 &&& (1 : Int32)) (0 : Int32) (i6 &&& (63 : Int32))))).mp hc145_39)).2) (by decide) (by decide) ?_
        show Steps p.tables e below (T36.setTop (mkF m 173 #[.val (.int i1), .val (.int i2), .val (.int i3), .val (.int i4), .val (.int i5), .val (.int i6), .val (.int (i1 &&& (1 : Int32))), .val (.int (i3 &&& (1 : Int32))), .val (.int (i5 &&& (1 : Int32))), .val (.int (i2 &&& (63 : Int32))), .val (.int (i4 &&& (63 : Int32))), .val (.int (i6 &&& (63 : Int32))), .val (.ref b1), .val (.long (((own_r10 (i1 &&& (1 : Int32)) (0 : Int32) (i2 &&& (63 : Int32))) ||| (own_r10 (i3 &&& (1 : Int32)) (0 : Int32) (i4 &&& (63 : Int32)))) ||| (own_r10 (i5 &&& (1 : Int32)) (0 : Int32) (i6 &&& (63 : Int32))))), .second, .val (.long (((own_r10 (i1 &&& (1 : Int32)) (1 : Int32) (i2 &&& (63 : Int32))) ||| (own_r10 (i3 &&& (1 : Int32)) (1 : Int32) (i4 &&& (63 : Int32)))) ||| (own_r10 (i5 &&& (1 : Int32)) (1 : Int32) (i6 &&& (63 : Int32))))), .second] [])) _
        refine XS.iconst X36.here hx rfl (hb hby at_173) ?_
        exact k
      exact ⟨T36, _, X36, N36, e36, fun t k => pre47 t (by rw [show (own_j0_145_0 i1 i2 i3 i4 i5 i6) = (0 : Int32) from (if_neg hc145_39)] at k; exact k)⟩
  obtain ⟨fs, hr, hrun, hended, hW, hsame⟩ := X48.leave (v := some (.int (nar .boolean (own_j0_145_0 i1 i2 i3 i4 i5 i6)))) (fun h => by rw [Bd.returns] at h; cases h)
  refine ⟨_, _, pre48 _ ?_, hrun, hended, _, _, rfl, ?_, ⟨_, rfl⟩, hW, hsame.mono (by decide) (by decide)⟩
  · show Steps p.tables e below (T48.setTop (mkF m 174 #[.val (.int i1), .val (.int i2), .val (.int i3), .val (.int i4), .val (.int i5), .val (.int i6), .val (.int (i1 &&& (1 : Int32))), .val (.int (i3 &&& (1 : Int32))), .val (.int (i5 &&& (1 : Int32))), .val (.int (i2 &&& (63 : Int32))), .val (.int (i4 &&& (63 : Int32))), .val (.int (i6 &&& (63 : Int32))), .val (.ref b1), .val (.long (((own_r10 (i1 &&& (1 : Int32)) (0 : Int32) (i2 &&& (63 : Int32))) ||| (own_r10 (i3 &&& (1 : Int32)) (0 : Int32) (i4 &&& (63 : Int32)))) ||| (own_r10 (i5 &&& (1 : Int32)) (0 : Int32) (i6 &&& (63 : Int32))))), .second, .val (.long (((own_r10 (i1 &&& (1 : Int32)) (1 : Int32) (i2 &&& (63 : Int32))) ||| (own_r10 (i3 &&& (1 : Int32)) (1 : Int32) (i4 &&& (63 : Int32)))) ||| (own_r10 (i5 &&& (1 : Int32)) (1 : Int32) (i6 &&& (63 : Int32))))), .second] [(.int (own_j0_145_0 i1 i2 i3 i4 i5 i6))])) _
    exact retN X48 hx (t := .boolean) Bd.returns (by simp) (hb hby at_174) hr
  · show Q0 Z i1 i2 i3 i4 i5 i6 w_DEFAULTCAPACITY_EMPTY_ELEMENTDATA h0 n0 _ T48.heap _
    rw [e48]
    exact ⟨rfl, N48⟩
theorem own_law (i1 : Int32) (i2 : Int32) (i3 : Int32) (i4 : Int32) (i5 : Int32) (i6 : Int32) : (nar .boolean (own_j0_145_0 i1 i2 i3 i4 i5 i6)) = 1 := by
  have v0 : ∀ (x y : Int32) (e : Int64), own_v9_w_bits_r0_0 (x &&& 1) (y &&& 63) 1 e = e ||| own_r10 (x &&& 1) 0 (y &&& 63) := by
    intro x y e
    unfold own_v9_w_bits_r0_0 own_r10
    rw [own_d0 y]
    rcases and_one x with h | h <;> rw [h]
    · rw [if_pos (by decide), if_pos rfl]
    · rw [if_neg (by decide), if_neg (by decide), Int64.or_zero]
  have v1 : ∀ (x y : Int32) (e : Int64), own_v9_w_bits_r0_1 (x &&& 1) (y &&& 63) 1 e = e ||| own_r10 (x &&& 1) 1 (y &&& 63) := by
    intro x y e
    unfold own_v9_w_bits_r0_1 own_r10
    rw [own_d0 y]
    rcases and_one x with h | h <;> rw [h]
    · rw [if_pos (by decide), if_neg (by decide), Int64.or_zero]
    · rw [if_neg (by decide), if_pos rfl]
  apply own_nar1
  unfold own_j0_145_0
  rw [v0, v0, v0, v1, v1, v1, Int64.zero_or, Int64.zero_or, if_pos rfl, if_pos rfl]
set_option maxRecDepth 65536 in
set_option maxHeartbeats 40000000 in
theorem comes_1 {Post : Tables → Env → Array Value → State → Outcome → State → Prop} (hpost : ∀ tb e args s v u, (limb_1_1.after args s (.returned v) u = true ∧ limb_1_2.after args s (.returned v) u = true ∧ True) → FrameEnd s (.returned v) u (Jvm.fieldLocs frame_1_writes args s ++ Jvm.arrayLocs frame_1_arrays args s ++ Jvm.staticLocs frame_1_statics s) 16 128 → Post tb e args s (.returned v) u) :
    ArmFor flags0 classFile x code maxLocals ret World_1 tables_1 room_1 Calls_1 rest_1 Pre_1 Post := by
  intro l hfl _ _ p e ha hc hk s m args below hf hA hF happ hP
  obtain ⟨hcalls, hrest, hpre⟩ := hP
  obtain ⟨-, -, -, hnamed, -, -, -, hat⟩ := (Spec.applies_iff hf).mp happ
  obtain ⟨hg, hn⟩ := and_e (Cond.before_iff.mp (show (Jvm.Cond.and given_1 narrow_1).before args s = true from hpre))
  obtain ⟨g1, g2⟩ := and_e hg
  obtain ⟨g3, g4⟩ := and_e g2
  obtain ⟨g5, g6⟩ := and_e g4
  obtain ⟨g7, g8⟩ := and_e g6
  obtain ⟨g9, g10⟩ := and_e g8
  obtain ⟨g11, g12⟩ := and_e g10
  obtain ⟨w0, w1, w2, w3, w4, w5, rfl⟩ : ∃ w0 w1 w2 w3 w4 w5 : Value, args = #[w0, w1, w2, w3, w4, w5] := by
    have hs : args.size = 6 := by simpa [Cond.value, given_1] using g1
    obtain ⟨L⟩ := args
    match L, hs with
    | [w0, w1, w2, w3, w4, w5], _ => exact ⟨w0, w1, w2, w3, w4, w5, rfl⟩
  have hw := fun d (hd : d ∈ tables_1) => atoms_spec (ws := Jvm.Cond.code x code maxLocals ret :: tables_1) hat d (List.mem_cons_of_mem _ hd)
  have hfit : Fit s := fun {y c} hc i hi => by
    obtain ⟨ha, rfl⟩ := Array.getElem?_eq_some_iff.mp hc
    have q := List.all_eq_true.mp ((Array.all_eq_true_iff_forall_mem.mp hF) _ (Array.getElem_mem ha)) i (List.mem_range.mpr hi)
    simpa [Array.getElem?_eq_getElem hi] using q
  obtain ⟨hsets, hown0⟩ := atoms_of _ (rest_1_c_eq ▸ (show rest_1_c.before _ s = true from hrest))
  obtain ⟨i0, ei0⟩ := is_v g3
  obtain rfl : w0 = (.int i0) := Option.some.inj ei0
  obtain ⟨i1, ei1⟩ := is_v g5
  obtain rfl : w1 = (.int i1) := Option.some.inj ei1
  obtain ⟨i2, ei2⟩ := is_v g7
  obtain rfl : w2 = (.int i2) := Option.some.inj ei2
  obtain ⟨i3, ei3⟩ := is_v g9
  obtain rfl : w3 = (.int i3) := Option.some.inj ei3
  obtain ⟨i4, ei4⟩ := is_v g11
  obtain rfl : w4 = (.int i4) := Option.some.inj ei4
  obtain ⟨i5, ei5⟩ := is_v g12
  obtain rfl : w5 = (.int i5) := Option.some.inj ei5
  obtain ⟨w_DEFAULTCAPACITY_EMPTY_ELEMENTDATA, es_w_DEFAULTCAPACITY_EMPTY_ELEMENTDATA⟩ := arr_v (Cond.before_iff.mp (hsets _ (List.mem_of_getElem? (i := 6) rfl)))
  obtain ⟨n, o, h1, h2, h3, _, L, rfl, ⟨hv, N⟩, hq⟩ := rm0 l s _ hw tables_1 i0 i1 i2 i3 i4 i5 w_DEFAULTCAPACITY_EMPTY_ELEMENTDATA s.heap s.heap.size (Nat.le_refl _) (Sta.start es_w_DEFAULTCAPACITY_EMPTY_ELEMENTDATA (Or.inr ⟨(hw _ (List.mem_of_getElem? (i := 5) rfl)), (hsets _ (List.mem_of_getElem? (i := 2) rfl))⟩)) (Old.start s) p e ha hc hk s m _ below hf ((Spec.applies_iff_loose hf).mp happ).1 ⟨rfl, State.Warmed39.refl s, rfl⟩ trivial
  rw [show (nar .boolean (own_j0_145_0 i0 i1 i2 i3 i4 i5)) = 1 from own_law i0 i1 i2 i3 i4 i5] at hv
  subst hv
  refine ⟨n, _, h1, h2, h3, hpost _ _ _ _ _ _ ⟨Cond.after_iff.mpr rfl, Cond.after_iff.mpr (eq_i res_at (Term.int_eval (1)) rfl), trivial⟩ ⟨hq.1, hq.2.1, (hq.2.2.sift fun y hy => Or.inr (N y hy)).mono (by decide) (by decide)⟩⟩
theorem main_1_1 : Claimed_1_1 := comes_1 fun _ _ _ _ _ _ h hF => ⟨h.1, hF⟩
theorem main_1_2 : Claimed_1_2 := comes_1 fun _ _ _ _ _ _ h hF => ⟨h.2.1, hF⟩
end Jvm.Pilot.@@N@@
namespace Jvm.Pilot.@@N@@
open Jvm Jvm.ClassFile Sem Op Lib Jvm.Free Jvm.Stand Jvm.Pilot.@@N@@.Jvm.D
/-! MADE BY PROGRAM (witnessworld.py) out of the Statement's table words and the real class files: 21 classes; the members and pool entries that the words name. The judged class is class 1, her method 1. -/
namespace start1
open Jvm.ClassFile
def u (s : String) : CpInfo := .utf8 (stringToUtf16 s)
/-- a pool by its gaps: so many unusable entries, then the entry; so many at the end -/
def gap : Nat → List CpInfo → List CpInfo
  | 0, r => r
  | n + 1, r => .unusable :: gap n r
def poolList (es : List (Nat × CpInfo)) (last : Nat) : List CpInfo := es.foldr (fun e r => gap e.1 (e.2 :: r)) (gap last [])
def pool (es : List (Nat × CpInfo)) (last : Nat) : Array CpInfo := ⟨poolList es last⟩
def fileOf (pool : Array CpInfo) (this : Nat) (attrs : Array Attribute := #[]) (ms : Array MethodInfo := #[]) (fl : Nat := 33) (sup : Nat := 0) (ifs : Array Nat := #[]) (fds : Array FieldInfo := #[]) : ClassFile where
  minorVersion := 0
  majorVersion := 65
  constantPool := pool
  accessFlags := fl
  thisClass := this
  superClass := sup
  interfaces := ifs
  fields := fds
  methods := ms
  attributes := attrs
def plain (name : String) (sup : Option ClassId) : Class where
  name := name
  kind := .ordinary
  loader := none
  accessFlags := 33
  super := sup
  interfaces := #[]
  cf := none
  fields := #[]
  methods := #[]
  instanceTypes := #[]
  staticTypes := #[]
  resolved := #[]
  callSites := []
  init := .initialized
  statics := none
  mirror := none

def pool0 : Array CpInfo := pool [(5, u "<init>"), (0, u "()V"), (1, .class_ 10), (1, u "java/lang/Object")] 113

def k0c0 : Code := { maxStack := 0, maxLocals := 1, code := object_method_1_code, exceptionTable := #[], attributes := #[] }
def k0m0 : Method := { name := "<init>", desc := "()V", sig := { parameters := [], returnType := none }, accessFlags := 1, code := some k0c0 }
/-- java/lang/Object -/
def k0 : Class := { plain "java/lang/Object" none with
  accessFlags := 33
  interfaces := #[]
  cf := some (fileOf pool0 8 #[] #[{ accessFlags := 1, nameIndex := 5, descriptorIndex := 6, attributes := #[] }] 33 0 #[] #[])
  fields := #[]
  methods := #[k0m0]
  instanceTypes := #[]
  staticTypes := #[]
  resolved := Array.replicate 124 none
  statics := none }

def pool1 : Array CpInfo := pool [(2, .class_ 4), (0, .nameAndType 5 6), (0, u "java/lang/Object"), (0, u "<init>"), (0, u "()V"), (0, .class_ 8), (0, u "com/example/fairmesh/fairmesh/node/AskedChunks"), (0, .class_ 10), (0, u "java/util/ArrayList"), (0, .methodref 9 3), (0, .methodref 7 13), (0, .nameAndType 5 14), (0, u "(Ljava/util/List;I)V"), (0, .methodref 7 16), (0, .nameAndType 17 18), (0, u "ask"), (0, u "(II)V"), (0, .methodref 20 21), (0, .class_ 22), (0, .nameAndType 23 24), (0, u "com/example/fairmesh/fairmesh/node/AskedChunksAskPinLaw"), (0, u "bit"), (0, u "(III)J"), (0, .methodref 7 26), (0, .nameAndType 27 28), (0, u "word"), (0, u "(II)J"), (0, .methodref 7 30), (0, .nameAndType 31 32), (0, u "size"), (0, u "()I"), (2, u "law"), (0, u "(IIIIII)Z")] 3

def k1m0 : Method := { name := "<init>", desc := "()V", sig := { parameters := [], returnType := none }, accessFlags := 1, code := none }
def k1c1 : Code := { maxStack := 5, maxLocals := 17, code := code, exceptionTable := #[], attributes := #[] }
def k1m1 : Method := { name := "law", desc := "(IIIIII)Z", sig := { parameters := [.int, .int, .int, .int, .int, .int], returnType := some .boolean }, accessFlags := 9, code := some k1c1 }
def k1c2 : Code := { maxStack := 3, maxLocals := 3, code := method_3_code, exceptionTable := #[], attributes := #[] }
def k1m2 : Method := { name := "bit", desc := "(III)J", sig := { parameters := [.int, .int, .int], returnType := some .long }, accessFlags := 10, code := some k1c2 }
/-- com/example/fairmesh/fairmesh/node/AskedChunksAskPinLaw -/
def k1 : Class := { plain "com/example/fairmesh/fairmesh/node/AskedChunksAskPinLaw" (some 0) with
  accessFlags := 49
  interfaces := #[]
  cf := some (fileOf pool1 20 #[] #[{ accessFlags := 1, nameIndex := 5, descriptorIndex := 6, attributes := #[] }, { accessFlags := 9, nameIndex := 35, descriptorIndex := 36, attributes := #[] }, { accessFlags := 10, nameIndex := 23, descriptorIndex := 24, attributes := #[] }] 49 2 #[] #[])
  fields := #[]
  methods := #[k1m0, k1m1, k1m2]
  instanceTypes := #[]
  staticTypes := #[]
  resolved := Array.replicate 40 none
  statics := none }

def pool2 : Array CpInfo := pool [(2, .class_ 4), (1, u "com/example/fairmesh/fairmesh/node/AskedChunks"), (0, u "<init>"), (0, u "(Ljava/util/List;I)V"), (0, .methodref 8 9), (0, .class_ 10), (0, .nameAndType 5 11), (0, u "java/lang/Object"), (0, u "()V"), (0, .fieldref 2 13), (0, .nameAndType 14 15), (0, u "neighbours"), (0, u "Ljava/util/List;"), (0, .interfaceMethodref 17 18), (0, .class_ 19), (0, .nameAndType 20 21), (0, u "java/util/List"), (0, u "size"), (0, u "()I"), (0, .methodref 2 23), (0, .nameAndType 24 25), (0, u "words"), (0, u "(I)I"), (0, .fieldref 2 27), (0, .nameAndType 24 28), (0, u "I"), (0, .methodref 30 31), (0, .class_ 32), (0, .nameAndType 33 34), (0, u "java/lang/Math"), (0, u "max"), (0, u "(II)I"), (0, .fieldref 2 36), (0, .nameAndType 37 38), (0, u "seqs"), (0, u "[J"), (0, .fieldref 2 40), (0, .nameAndType 41 38), (0, u "bits"), (2, .fieldref 2 45), (0, .nameAndType 46 28), (0, u "count"), (20, .class_ 68), (0, u "com/example/fairmesh/fairmesh/node/AskedChunks$Reader"), (24, u "NONE"), (0, u "Lcom/example/fairmesh/fairmesh/node/AskedChunks;"), (7, u "word"), (0, u "(II)J"), (0, u "ask"), (0, u "(II)V")] 17

def k2c0 : Code := { maxStack := 3, maxLocals := 3, code := prog_18_method_2_code, exceptionTable := #[], attributes := #[] }
def k2m0 : Method := { name := "<init>", desc := "(Ljava/util/List;I)V", sig := { parameters := [(.object "java/util/List"), .int], returnType := none }, accessFlags := 0, code := some k2c0 }
def k2c1 : Code := { maxStack := 3, maxLocals := 1, code := prog_18_method_3_code, exceptionTable := #[], attributes := #[] }
def k2m1 : Method := { name := "words", desc := "(I)I", sig := { parameters := [.int], returnType := some .int }, accessFlags := 8, code := some k2c1 }
def k2c2 : Code := { maxStack := 1, maxLocals := 1, code := prog_18_method_4_code, exceptionTable := #[], attributes := #[] }
def k2m2 : Method := { name := "size", desc := "()I", sig := { parameters := [], returnType := some .int }, accessFlags := 0, code := some k2c2 }
def k2c3 : Code := { maxStack := 3, maxLocals := 3, code := prog_18_method_6_code, exceptionTable := #[], attributes := #[] }
def k2m3 : Method := { name := "word", desc := "(II)J", sig := { parameters := [.int, .int], returnType := some .long }, accessFlags := 0, code := some k2c3 }
def k2c4 : Code := { maxStack := 7, maxLocals := 3, code := prog_18_method_7_code, exceptionTable := #[], attributes := #[] }
def k2m4 : Method := { name := "ask", desc := "(II)V", sig := { parameters := [.int, .int], returnType := none }, accessFlags := 0, code := some k2c4 }
/-- com/example/fairmesh/fairmesh/node/AskedChunks -/
def k2 : Class := { plain "com/example/fairmesh/fairmesh/node/AskedChunks" (some 0) with
  accessFlags := 48
  interfaces := #[]
  cf := some (fileOf pool2 2 #[.nestMembers #[67]] #[{ accessFlags := 0, nameIndex := 5, descriptorIndex := 6, attributes := #[] }, { accessFlags := 8, nameIndex := 24, descriptorIndex := 25, attributes := #[] }, { accessFlags := 0, nameIndex := 20, descriptorIndex := 21, attributes := #[] }, { accessFlags := 0, nameIndex := 102, descriptorIndex := 103, attributes := #[] }, { accessFlags := 0, nameIndex := 104, descriptorIndex := 105, attributes := #[] }] 48 8 #[] #[{ accessFlags := 24, nameIndex := 93, descriptorIndex := 94, attributes := #[] }, { accessFlags := 18, nameIndex := 14, descriptorIndex := 15, attributes := #[] }, { accessFlags := 18, nameIndex := 24, descriptorIndex := 28, attributes := #[] }, { accessFlags := 2, nameIndex := 37, descriptorIndex := 38, attributes := #[] }, { accessFlags := 2, nameIndex := 41, descriptorIndex := 38, attributes := #[] }, { accessFlags := 2, nameIndex := 46, descriptorIndex := 28, attributes := #[] }])
  fields := #[{ name := "NONE", type := (.object "com/example/fairmesh/fairmesh/node/AskedChunks"), accessFlags := 24, slot := 0, constantValue := 0 }, { name := "neighbours", type := (.object "java/util/List"), accessFlags := 18, slot := 0, constantValue := 0 }, { name := "words", type := .int, accessFlags := 18, slot := 1, constantValue := 0 }, { name := "seqs", type := (.array .long), accessFlags := 2, slot := 2, constantValue := 0 }, { name := "bits", type := (.array .long), accessFlags := 2, slot := 3, constantValue := 0 }, { name := "count", type := .int, accessFlags := 2, slot := 4, constantValue := 0 }]
  methods := #[k2m0, k2m1, k2m2, k2m3, k2m4]
  instanceTypes := #[(.object "java/util/List"), .int, (.array .long), (.array .long), .int]
  staticTypes := #[(.object "com/example/fairmesh/fairmesh/node/AskedChunks")]
  resolved := Array.replicate 123 none
  statics := none }

def pool3 : Array CpInfo := pool [(8, .class_ 10), (1, u "java/lang/Iterable"), (24, .class_ 36), (0, u "java/lang/Object")] 25

/-- java/lang/Iterable -/
def k3 : Class := { plain "java/lang/Iterable" (some 0) with
  accessFlags := 1537
  interfaces := #[]
  cf := some (fileOf pool3 8 #[] #[] 1537 35 #[] #[])
  fields := #[]
  methods := #[]
  instanceTypes := #[]
  staticTypes := #[]
  resolved := Array.replicate 62 none
  statics := none }

def pool4 : Array CpInfo := pool [(10, .class_ 12), (1, u "java/util/Collection"), (47, .class_ 61), (0, u "java/lang/Object"), (0, .class_ 63), (0, u "java/lang/Iterable")] 51

/-- java/util/Collection -/
def k4 : Class := { plain "java/util/Collection" (some 0) with
  accessFlags := 1537
  interfaces := #[3]
  cf := some (fileOf pool4 10 #[] #[] 1537 60 #[62] #[])
  fields := #[]
  methods := #[]
  instanceTypes := #[]
  staticTypes := #[]
  resolved := Array.replicate 115 none
  statics := none }

def pool5 : Array CpInfo := pool [(1, .methodref 2 3), (0, .class_ 4), (0, .nameAndType 5 6), (0, u "java/lang/Object"), (0, u "<init>"), (0, u "()V"), (1, .class_ 10), (1, u "java/util/AbstractCollection"), (66, .class_ 78), (0, u "java/util/Collection")] 81

def k5c0 : Code := { maxStack := 1, maxLocals := 1, code := jdk_22_method_1_code, exceptionTable := #[], attributes := #[] }
def k5m0 : Method := { name := "<init>", desc := "()V", sig := { parameters := [], returnType := none }, accessFlags := 4, code := some k5c0 }
/-- java/util/AbstractCollection -/
def k5 : Class := { plain "java/util/AbstractCollection" (some 0) with
  accessFlags := 1057
  interfaces := #[4]
  cf := some (fileOf pool5 8 #[] #[{ accessFlags := 4, nameIndex := 5, descriptorIndex := 6, attributes := #[] }] 1057 2 #[77] #[])
  fields := #[]
  methods := #[k5m0]
  instanceTypes := #[]
  staticTypes := #[]
  resolved := Array.replicate 160 none
  statics := none }

def pool6 : Array CpInfo := pool [(8, .class_ 10), (1, u "java/util/SequencedCollection"), (15, .class_ 27), (0, u "java/lang/Object"), (0, .class_ 29), (0, u "java/util/Collection")] 27

/-- java/util/SequencedCollection -/
def k6 : Class := { plain "java/util/SequencedCollection" (some 0) with
  accessFlags := 1537
  interfaces := #[4]
  cf := some (fileOf pool6 8 #[] #[] 1537 26 #[28] #[])
  fields := #[]
  methods := #[]
  instanceTypes := #[]
  staticTypes := #[]
  resolved := Array.replicate 57 none
  statics := none }

def pool7 : Array CpInfo := pool [(8, .class_ 10), (1, u "java/util/List"), (68, u "size"), (0, u "()I"), (22, .class_ 104), (0, u "java/lang/Object"), (15, .class_ 121), (0, u "java/util/SequencedCollection")] 129

def k7m0 : Method := { name := "size", desc := "()I", sig := { parameters := [], returnType := some .int }, accessFlags := 1025, code := none }
/-- java/util/List -/
def k7 : Class := { plain "java/util/List" (some 0) with
  accessFlags := 1537
  interfaces := #[6]
  cf := some (fileOf pool7 8 #[] #[{ accessFlags := 1025, nameIndex := 79, descriptorIndex := 80, attributes := #[] }] 1537 103 #[120] #[])
  fields := #[]
  methods := #[k7m0]
  instanceTypes := #[]
  staticTypes := #[]
  resolved := Array.replicate 251 none
  statics := none }

def pool8 : Array CpInfo := pool [(1, .methodref 2 3), (0, .class_ 4), (0, .nameAndType 5 6), (0, u "java/util/AbstractCollection"), (0, u "<init>"), (0, u "()V"), (0, .fieldref 8 9), (0, .class_ 10), (0, .nameAndType 11 12), (0, u "java/util/AbstractList"), (0, u "modCount"), (0, u "I"), (64, .class_ 78), (0, u "java/util/AbstractList$Itr"), (3, .class_ 83), (0, u "java/util/AbstractList$ListItr"), (9, .class_ 94), (0, u "java/util/AbstractList$RandomAccessSubList"), (3, .class_ 99), (0, u "java/util/AbstractList$SubList"), (33, .class_ 134), (0, u "java/util/List"), (73, .class_ 209), (0, u "java/util/AbstractList$SubList$1"), (0, .class_ 211), (0, u "java/util/AbstractList$RandomAccessSpliterator")] 6

def k8c0 : Code := { maxStack := 2, maxLocals := 1, code := jdk_39_method_1_code, exceptionTable := #[], attributes := #[] }
def k8m0 : Method := { name := "<init>", desc := "()V", sig := { parameters := [], returnType := none }, accessFlags := 4, code := some k8c0 }
/-- java/util/AbstractList -/
def k8 : Class := { plain "java/util/AbstractList" (some 5) with
  accessFlags := 1057
  interfaces := #[7]
  cf := some (fileOf pool8 8 #[.nestMembers #[93, 98, 208, 210, 82, 77]] #[{ accessFlags := 4, nameIndex := 5, descriptorIndex := 6, attributes := #[] }] 1057 2 #[133] #[{ accessFlags := 132, nameIndex := 11, descriptorIndex := 12, attributes := #[] }])
  fields := #[{ name := "modCount", type := .int, accessFlags := 132, slot := 0, constantValue := 0 }]
  methods := #[k8m0]
  instanceTypes := #[.int]
  staticTypes := #[]
  resolved := Array.replicate 218 none
  statics := none }

def pool9 : Array CpInfo := pool [(1, .class_ 2), (0, u "java/util/RandomAccess"), (0, .class_ 4), (0, u "java/lang/Object")] 2

/-- java/util/RandomAccess -/
def k9 : Class := { plain "java/util/RandomAccess" (some 0) with
  accessFlags := 1537
  interfaces := #[]
  cf := some (fileOf pool9 1 #[] #[] 1537 3 #[] #[])
  fields := #[]
  methods := #[]
  instanceTypes := #[]
  staticTypes := #[]
  resolved := Array.replicate 7 none
  statics := none }

def pool10 : Array CpInfo := pool [(1, .class_ 2), (0, u "java/lang/Cloneable"), (0, .class_ 4), (0, u "java/lang/Object")] 2

/-- java/lang/Cloneable -/
def k10 : Class := { plain "java/lang/Cloneable" (some 0) with
  accessFlags := 1537
  interfaces := #[]
  cf := some (fileOf pool10 1 #[] #[] 1537 3 #[] #[])
  fields := #[]
  methods := #[]
  instanceTypes := #[]
  staticTypes := #[]
  resolved := Array.replicate 7 none
  statics := none }

def pool11 : Array CpInfo := pool [(1, .class_ 2), (0, u "java/io/Serializable"), (0, .class_ 4), (0, u "java/lang/Object")] 2

/-- java/io/Serializable -/
def k11 : Class := { plain "java/io/Serializable" (some 0) with
  accessFlags := 1537
  interfaces := #[]
  cf := some (fileOf pool11 1 #[] #[] 1537 3 #[] #[])
  fields := #[]
  methods := #[]
  instanceTypes := #[]
  staticTypes := #[]
  resolved := Array.replicate 7 none
  statics := none }

def pool12 : Array CpInfo := pool [(1, .methodref 2 3), (0, .class_ 4), (0, .nameAndType 5 6), (0, u "java/util/AbstractList"), (0, u "<init>"), (0, u "()V"), (2, .fieldref 10 11), (0, .class_ 12), (0, .nameAndType 13 14), (0, u "java/util/ArrayList"), (0, u "elementData"), (0, u "[Ljava/lang/Object;"), (2, u "EMPTY_ELEMENTDATA"), (21, .fieldref 10 40), (0, .nameAndType 41 14), (0, u "DEFAULTCAPACITY_EMPTY_ELEMENTDATA"), (6, .fieldref 10 49), (0, .nameAndType 50 51), (0, u "size"), (0, u "I"), (96, .class_ 149), (0, u "java/util/List"), (36, u "()I"), (75, .class_ 263), (0, u "java/util/ArrayList$ListItr"), (3, .class_ 268), (0, u "java/util/ArrayList$Itr"), (7, .class_ 277), (0, u "java/util/ArrayList$SubList"), (12, .class_ 291), (0, u "java/util/ArrayList$ArrayListSpliterator"), (37, .class_ 330), (0, u "java/util/RandomAccess"), (0, .class_ 332), (0, u "java/lang/Cloneable"), (0, .class_ 334), (0, u "java/io/Serializable"), (0, u "serialVersionUID"), (0, u "J"), (3, u "DEFAULT_CAPACITY"), (159, .class_ 501), (0, u "java/util/ArrayList$SubList$2"), (0, .class_ 503), (0, u "java/util/ArrayList$SubList$1")] 5

def k12c0 : Code := { maxStack := 2, maxLocals := 1, code := jdk_38_method_2_code, exceptionTable := #[], attributes := #[] }
def k12m0 : Method := { name := "<init>", desc := "()V", sig := { parameters := [], returnType := none }, accessFlags := 1, code := some k12c0 }
def k12c1 : Code := { maxStack := 1, maxLocals := 1, code := jdk_38_method_8_code, exceptionTable := #[], attributes := #[] }
def k12m1 : Method := { name := "size", desc := "()I", sig := { parameters := [], returnType := some .int }, accessFlags := 1, code := some k12c1 }
/-- java/util/ArrayList -/
def k12 : Class := { plain "java/util/ArrayList" (some 8) with
  accessFlags := 33
  interfaces := #[7, 9, 10, 11]
  cf := some (fileOf pool12 10 #[.nestMembers #[290, 276, 500, 502, 262, 267]] #[{ accessFlags := 1, nameIndex := 5, descriptorIndex := 6, attributes := #[] }, { accessFlags := 1, nameIndex := 50, descriptorIndex := 186, attributes := #[] }] 33 2 #[148, 329, 331, 333] #[{ accessFlags := 26, nameIndex := 335, descriptorIndex := 336, attributes := #[] }, { accessFlags := 26, nameIndex := 340, descriptorIndex := 51, attributes := #[] }, { accessFlags := 26, nameIndex := 17, descriptorIndex := 14, attributes := #[] }, { accessFlags := 26, nameIndex := 41, descriptorIndex := 14, attributes := #[] }, { accessFlags := 128, nameIndex := 13, descriptorIndex := 14, attributes := #[] }, { accessFlags := 2, nameIndex := 50, descriptorIndex := 51, attributes := #[] }])
  fields := #[{ name := "serialVersionUID", type := .long, accessFlags := 26, slot := 0, constantValue := 0 }, { name := "DEFAULT_CAPACITY", type := .int, accessFlags := 26, slot := 1, constantValue := 0 }, { name := "EMPTY_ELEMENTDATA", type := (.array (.object "java/lang/Object")), accessFlags := 26, slot := 2, constantValue := 0 }, { name := "DEFAULTCAPACITY_EMPTY_ELEMENTDATA", type := (.array (.object "java/lang/Object")), accessFlags := 26, slot := 3, constantValue := 0 }, { name := "elementData", type := (.array (.object "java/lang/Object")), accessFlags := 128, slot := 1, constantValue := 0 }, { name := "size", type := .int, accessFlags := 2, slot := 2, constantValue := 0 }]
  methods := #[k12m0, k12m1]
  instanceTypes := #[.int, (.array (.object "java/lang/Object")), .int]
  staticTypes := #[.long, .int, (.array (.object "java/lang/Object")), (.array (.object "java/lang/Object"))]
  resolved := Array.replicate 509 none
  statics := some 0 }

def pool13 : Array CpInfo := pool [(1, .class_ 2), (0, u "java/lang/Math"), (1, .class_ 6), (1, u "java/lang/Object"), (0, u "<init>"), (0, u "()V"), (89, .class_ 100), (1, u "java/lang/Math$RandomNumberGeneratorHolder"), (71, u "negativeZeroFloatBits"), (0, u "J"), (2, u "negativeZeroDoubleBits"), (21, u "max"), (46, u "$assertionsDisabled"), (0, u "Z"), (88, u "(II)I"), (2, u "twoToTheDoubleScaleDown"), (0, u "D"), (4, u "twoToTheDoubleScaleUp"), (9, u "E"), (3, u "PI"), (2, u "TAU"), (2, u "DEGREES_TO_RADIANS"), (0, u "RADIANS_TO_DEGREES")] 94

def k13m0 : Method := { name := "<init>", desc := "()V", sig := { parameters := [], returnType := none }, accessFlags := 2, code := none }
def k13c1 : Code := { maxStack := 2, maxLocals := 2, code := jdk_29_method_65_code, exceptionTable := #[], attributes := #[] }
def k13m1 : Method := { name := "max", desc := "(II)I", sig := { parameters := [.int, .int], returnType := some .int }, accessFlags := 9, code := some k13c1 }
/-- java/lang/Math -/
def k13 : Class := { plain "java/lang/Math" (some 0) with
  accessFlags := 49
  interfaces := #[]
  cf := some (fileOf pool13 1 #[.nestMembers #[98]] #[{ accessFlags := 2, nameIndex := 7, descriptorIndex := 8, attributes := #[] }, { accessFlags := 9, nameIndex := 198, descriptorIndex := 335, attributes := #[] }] 49 4 #[] #[{ accessFlags := 25, nameIndex := 354, descriptorIndex := 339, attributes := #[] }, { accessFlags := 25, nameIndex := 358, descriptorIndex := 339, attributes := #[] }, { accessFlags := 25, nameIndex := 361, descriptorIndex := 339, attributes := #[] }, { accessFlags := 26, nameIndex := 364, descriptorIndex := 339, attributes := #[] }, { accessFlags := 26, nameIndex := 365, descriptorIndex := 339, attributes := #[] }, { accessFlags := 26, nameIndex := 172, descriptorIndex := 173, attributes := #[] }, { accessFlags := 26, nameIndex := 176, descriptorIndex := 173, attributes := #[] }, { accessFlags := 8, nameIndex := 344, descriptorIndex := 339, attributes := #[] }, { accessFlags := 8, nameIndex := 338, descriptorIndex := 339, attributes := #[] }, { accessFlags := 4120, nameIndex := 245, descriptorIndex := 246, attributes := #[] }])
  fields := #[{ name := "E", type := .double, accessFlags := 25, slot := 0, constantValue := 0 }, { name := "PI", type := .double, accessFlags := 25, slot := 1, constantValue := 0 }, { name := "TAU", type := .double, accessFlags := 25, slot := 2, constantValue := 0 }, { name := "DEGREES_TO_RADIANS", type := .double, accessFlags := 26, slot := 3, constantValue := 0 }, { name := "RADIANS_TO_DEGREES", type := .double, accessFlags := 26, slot := 4, constantValue := 0 }, { name := "negativeZeroFloatBits", type := .long, accessFlags := 26, slot := 5, constantValue := 0 }, { name := "negativeZeroDoubleBits", type := .long, accessFlags := 26, slot := 6, constantValue := 0 }, { name := "twoToTheDoubleScaleUp", type := .double, accessFlags := 8, slot := 7, constantValue := 0 }, { name := "twoToTheDoubleScaleDown", type := .double, accessFlags := 8, slot := 8, constantValue := 0 }, { name := "$assertionsDisabled", type := .boolean, accessFlags := 4120, slot := 9, constantValue := 0 }]
  methods := #[k13m0, k13m1]
  instanceTypes := #[]
  staticTypes := #[.double, .double, .double, .double, .double, .long, .long, .double, .double, .boolean]
  resolved := Array.replicate 460 none
  statics := none }

/-- the primitive byte -/
def k14 : Class := { plain "byte" none with kind := .primitive 'B', accessFlags := 0x411 }
/-- [B -/
def k15 : Class := { plain "[B" (some 0) with kind := .array 14 .byte, interfaces := #[10, 11], accessFlags := 1041 }

/-- the primitive int -/
def k16 : Class := { plain "int" none with kind := .primitive 'I', accessFlags := 0x411 }
/-- [I -/
def k17 : Class := { plain "[I" (some 0) with kind := .array 16 .int, interfaces := #[10, 11], accessFlags := 1041 }

/-- the primitive long -/
def k18 : Class := { plain "long" none with kind := .primitive 'J', accessFlags := 0x411 }
/-- [J -/
def k19 : Class := { plain "[J" (some 0) with kind := .array 18 .long, interfaces := #[10, 11], accessFlags := 1041 }

/-- [Ljava/lang/Object; -/
def k20 : Class := { plain "[Ljava/lang/Object;" (some 0) with kind := .array 0 (.object "java/lang/Object"), interfaces := #[10, 11], accessFlags := 1041 }

def heap : Heap := #[{ cls := 12, slots := #[.long 0, .int 0, .ref 1, .ref 2], vm := .statics 12 },
  { cls := 20, slots := #[], vm := .none },
  { cls := 20, slots := #[], vm := .none }]
def classes : Array Class := #[k0, k1, k2, k3, k4, k5, k6, k7, k8, k9, k10, k11, k12, k13, k14, k15, k16, k17, k18, k19, k20]
def interned : List (Array UInt16 × Addr) := []
def slotsUsed : Nat := 4
def theMethod : MethodId := ⟨1, 1⟩
def args0 : Array Value := #[.int 5, .int 6, .int 7, .int 8, .int 9, .int 10]
def aboutOver (below : List Frame) : State where
  vm := { classes := classes, interned := interned.toArray }
  heap := heap
  slotsUsed := slotsUsed
  threads := #[{ frames := .invoking theMethod args0 :: below }]
def below0 : List Frame := [.native { method := ⟨0, 0⟩, args := #[] }]
def about1 : State := aboutOver below0
def p0 : Program := .bare "" "" ""
def e0 : Env := launch0.env 0 0 0
theorem w_frames : about1.frames = Frame.invoking theMethod args0 :: below0 := rfl
set_option maxRecDepth 65536 in
theorem w_args : argsFit about1.vm theMethod args0 = true := by decide +kernel
set_option maxRecDepth 65536 in
theorem w_heap : heapFits about1 = true := by decide +kernel
set_option maxRecDepth 65536 in
theorem w_runnable : about1.curStatus? = some .runnable := by decide +kernel
set_option maxRecDepth 65536 in
theorem w_alone : about1.alone = true := by decide +kernel
set_option maxRecDepth 65536 in
theorem w_named : about1.methodNamed? x = some theMethod := by decide +kernel
set_option maxRecDepth 65536 in
theorem w_hears : about1.hears theMethod below0 = true := by decide +kernel
set_option maxRecDepth 65536 in
theorem w_ripe : about1.ripe theMethod args0 below0 = true := by decide +kernel
theorem w_running : about1.status = .running := rfl
set_option maxRecDepth 65536 in
theorem w_room : about1.hasRoom e0.platform room_1 = true :=
  launch0.hasRoom_least _ room_1 (by decide +kernel) (by decide +kernel) (by decide +kernel) (by decide +kernel) (by decide +kernel) (by decide +kernel)
theorem allAtoms_all (ts : List Jvm.Cond) (a : Array Jvm.Value) (st : Jvm.State) : (allAtoms ts).before a st = ts.all (fun c => c.before a st) := by
  induction ts with
  | nil => rfl
  | cons c t ih =>
    show (Jvm.Cond.and c (allAtoms t)).before a st = _
    rw [Jvm.Cond.before_and, ih, List.all_cons]
def words1 : List Jvm.Cond := Jvm.Cond.code x code maxLocals ret :: tables_1
/-- a 'code' word, met by the world's own term for the bytes: nothing is compared byte by byte -/
theorem code_word {y : MethodName} {bytes : ByteArray} {mx : Nat} {rt : Option FieldType} {a : Array Value} {s : State} {m : MethodId} {meth : Method} {c : Code} (h1 : s.methodNamed? y = some m) (h2 : s.vm.method? m = some meth) (h3 : meth.code = some c) (h4 : c.code = bytes)
    (h5 : (c.maxLocals == mx && c.exceptionTable.isEmpty && decide (c.maxStack ≤ mostOperands) && decide (meth.sig.returnType = rt) && !meth.locks && decide (parseMethodDescriptor y.desc = some meth.sig)) = true) : (Jvm.Cond.code y bytes mx rt).before a s = true := by
  simp only [Bool.and_eq_true, beq_iff_eq, Bool.not_eq_true', decide_eq_true_eq] at h5
  obtain ⟨⟨⟨⟨⟨g1, g2⟩, g3⟩, g4⟩, g5⟩, g6⟩ := h5
  simp [Cond.before, Cond.holds, Cond.value, h1, h2, h3, h4, g1, g2, g3, g4, g5, g6]
def isCode : Jvm.Cond → Bool
  | .code _ _ _ _ => true
  | _ => false
theorem all_split {L : List Jvm.Cond} {P : Jvm.Cond → Bool} (h1 : L.all (fun c => isCode c || P c) = true) (h2 : ∀ c ∈ L.filter isCode, P c = true) : L.all P = true := by
  refine List.all_eq_true.mpr fun c hc => ?_
  have h := List.all_eq_true.mp h1 c hc
  rcases Bool.eq_false_or_eq_true (isCode c) with hi | hi
  · exact h2 c (List.mem_filter.mpr ⟨hc, hi⟩)
  · simpa [hi] using h
set_option maxRecDepth 65536 in
theorem w_c0 : (Jvm.Cond.code x code maxLocals ret).before args0 about1 = true := code_word (m := ⟨1, 1⟩) (meth := k1m1) (c := k1c1) (by decide +kernel) rfl rfl rfl (by decide +kernel)
set_option maxRecDepth 65536 in
theorem w_c1 : (Jvm.Cond.code ({ cls := "java/util/ArrayList", name := "<init>", desc := "()V" } : Jvm.MethodName) jdk_38_method_2_code (1 : Nat) (Option.none : Option Jvm.ClassFile.FieldType)).before args0 about1 = true := code_word (m := ⟨12, 0⟩) (meth := k12m0) (c := k12c0) (by decide +kernel) rfl rfl rfl (by decide +kernel)
set_option maxRecDepth 65536 in
theorem w_c2 : (Jvm.Cond.code ({ cls := "java/util/AbstractList", name := "<init>", desc := "()V" } : Jvm.MethodName) jdk_39_method_1_code (1 : Nat) (Option.none : Option Jvm.ClassFile.FieldType)).before args0 about1 = true := code_word (m := ⟨8, 0⟩) (meth := k8m0) (c := k8c0) (by decide +kernel) rfl rfl rfl (by decide +kernel)
set_option maxRecDepth 65536 in
theorem w_c3 : (Jvm.Cond.code ({ cls := "java/util/AbstractCollection", name := "<init>", desc := "()V" } : Jvm.MethodName) jdk_22_method_1_code (1 : Nat) (Option.none : Option Jvm.ClassFile.FieldType)).before args0 about1 = true := code_word (m := ⟨5, 0⟩) (meth := k5m0) (c := k5c0) (by decide +kernel) rfl rfl rfl (by decide +kernel)
set_option maxRecDepth 65536 in
theorem w_c4 : (Jvm.Cond.code ({ cls := "java/lang/Object", name := "<init>", desc := "()V" } : Jvm.MethodName) object_method_1_code (1 : Nat) (Option.none : Option Jvm.ClassFile.FieldType)).before args0 about1 = true := code_word (m := ⟨0, 0⟩) (meth := k0m0) (c := k0c0) (by decide +kernel) rfl rfl rfl (by decide +kernel)
set_option maxRecDepth 65536 in
theorem w_c5 : (Jvm.Cond.code ({ cls := "com/example/fairmesh/fairmesh/node/AskedChunks", name := "<init>", desc := "(Ljava/util/List;I)V" } : Jvm.MethodName) prog_18_method_2_code (3 : Nat) (Option.none : Option Jvm.ClassFile.FieldType)).before args0 about1 = true := code_word (m := ⟨2, 0⟩) (meth := k2m0) (c := k2c0) (by decide +kernel) rfl rfl rfl (by decide +kernel)
set_option maxRecDepth 65536 in
theorem w_c6 : (Jvm.Cond.code ({ cls := "java/util/ArrayList", name := "size", desc := "()I" } : Jvm.MethodName) jdk_38_method_8_code (1 : Nat) (Option.some Jvm.ClassFile.FieldType.int)).before args0 about1 = true := code_word (m := ⟨12, 1⟩) (meth := k12m1) (c := k12c1) (by decide +kernel) rfl rfl rfl (by decide +kernel)
set_option maxRecDepth 65536 in
theorem w_c7 : (Jvm.Cond.code ({ cls := "com/example/fairmesh/fairmesh/node/AskedChunks", name := "words", desc := "(I)I" } : Jvm.MethodName) prog_18_method_3_code (1 : Nat) (Option.some Jvm.ClassFile.FieldType.int)).before args0 about1 = true := code_word (m := ⟨2, 1⟩) (meth := k2m1) (c := k2c1) (by decide +kernel) rfl rfl rfl (by decide +kernel)
set_option maxRecDepth 65536 in
theorem w_c8 : (Jvm.Cond.code ({ cls := "java/lang/Math", name := "max", desc := "(II)I" } : Jvm.MethodName) jdk_29_method_65_code (2 : Nat) (Option.some Jvm.ClassFile.FieldType.int)).before args0 about1 = true := code_word (m := ⟨13, 1⟩) (meth := k13m1) (c := k13c1) (by decide +kernel) rfl rfl rfl (by decide +kernel)
set_option maxRecDepth 65536 in
theorem w_c9 : (Jvm.Cond.code ({ cls := "com/example/fairmesh/fairmesh/node/AskedChunks", name := "ask", desc := "(II)V" } : Jvm.MethodName) prog_18_method_7_code (3 : Nat) (Option.none : Option Jvm.ClassFile.FieldType)).before args0 about1 = true := code_word (m := ⟨2, 4⟩) (meth := k2m4) (c := k2c4) (by decide +kernel) rfl rfl rfl (by decide +kernel)
set_option maxRecDepth 65536 in
theorem w_c10 : (Jvm.Cond.code ({ cls := "com/example/fairmesh/fairmesh/node/AskedChunksAskPinLaw", name := "bit", desc := "(III)J" } : Jvm.MethodName) method_3_code (3 : Nat) (Option.some Jvm.ClassFile.FieldType.long)).before args0 about1 = true := code_word (m := ⟨1, 2⟩) (meth := k1m2) (c := k1c2) (by decide +kernel) rfl rfl rfl (by decide +kernel)
set_option maxRecDepth 65536 in
theorem w_c11 : (Jvm.Cond.code ({ cls := "com/example/fairmesh/fairmesh/node/AskedChunks", name := "word", desc := "(II)J" } : Jvm.MethodName) prog_18_method_6_code (3 : Nat) (Option.some Jvm.ClassFile.FieldType.long)).before args0 about1 = true := code_word (m := ⟨2, 3⟩) (meth := k2m3) (c := k2c3) (by decide +kernel) rfl rfl rfl (by decide +kernel)
set_option maxRecDepth 65536 in
theorem w_c12 : (Jvm.Cond.code ({ cls := "com/example/fairmesh/fairmesh/node/AskedChunks", name := "size", desc := "()I" } : Jvm.MethodName) prog_18_method_4_code (1 : Nat) (Option.some Jvm.ClassFile.FieldType.int)).before args0 about1 = true := code_word (m := ⟨2, 2⟩) (meth := k2m2) (c := k2c2) (by decide +kernel) rfl rfl rfl (by decide +kernel)
def codes1 : List Jvm.Cond := [Jvm.Cond.code x code maxLocals ret, Jvm.Cond.code ({ cls := "java/util/ArrayList", name := "<init>", desc := "()V" } : Jvm.MethodName) jdk_38_method_2_code (1 : Nat) (Option.none : Option Jvm.ClassFile.FieldType), Jvm.Cond.code ({ cls := "java/util/AbstractList", name := "<init>", desc := "()V" } : Jvm.MethodName) jdk_39_method_1_code (1 : Nat) (Option.none : Option Jvm.ClassFile.FieldType), Jvm.Cond.code ({ cls := "java/util/AbstractCollection", name := "<init>", desc := "()V" } : Jvm.MethodName) jdk_22_method_1_code (1 : Nat) (Option.none : Option Jvm.ClassFile.FieldType), Jvm.Cond.code ({ cls := "java/lang/Object", name := "<init>", desc := "()V" } : Jvm.MethodName) object_method_1_code (1 : Nat) (Option.none : Option Jvm.ClassFile.FieldType), Jvm.Cond.code ({ cls := "com/example/fairmesh/fairmesh/node/AskedChunks", name := "<init>", desc := "(Ljava/util/List;I)V" } : Jvm.MethodName) prog_18_method_2_code (3 : Nat) (Option.none : Option Jvm.ClassFile.FieldType), Jvm.Cond.code ({ cls := "java/util/ArrayList", name := "size", desc := "()I" } : Jvm.MethodName) jdk_38_method_8_code (1 : Nat) (Option.some Jvm.ClassFile.FieldType.int), Jvm.Cond.code ({ cls := "com/example/fairmesh/fairmesh/node/AskedChunks", name := "words", desc := "(I)I" } : Jvm.MethodName) prog_18_method_3_code (1 : Nat) (Option.some Jvm.ClassFile.FieldType.int), Jvm.Cond.code ({ cls := "java/lang/Math", name := "max", desc := "(II)I" } : Jvm.MethodName) jdk_29_method_65_code (2 : Nat) (Option.some Jvm.ClassFile.FieldType.int), Jvm.Cond.code ({ cls := "com/example/fairmesh/fairmesh/node/AskedChunks", name := "ask", desc := "(II)V" } : Jvm.MethodName) prog_18_method_7_code (3 : Nat) (Option.none : Option Jvm.ClassFile.FieldType), Jvm.Cond.code ({ cls := "com/example/fairmesh/fairmesh/node/AskedChunksAskPinLaw", name := "bit", desc := "(III)J" } : Jvm.MethodName) method_3_code (3 : Nat) (Option.some Jvm.ClassFile.FieldType.long), Jvm.Cond.code ({ cls := "com/example/fairmesh/fairmesh/node/AskedChunks", name := "word", desc := "(II)J" } : Jvm.MethodName) prog_18_method_6_code (3 : Nat) (Option.some Jvm.ClassFile.FieldType.long), Jvm.Cond.code ({ cls := "com/example/fairmesh/fairmesh/node/AskedChunks", name := "size", desc := "()I" } : Jvm.MethodName) prog_18_method_4_code (1 : Nat) (Option.some Jvm.ClassFile.FieldType.int)]
set_option maxRecDepth 65536 in
theorem codes_eq : words1.filter isCode = codes1 := rfl
theorem w_codes : ∀ c ∈ words1.filter isCode, c.before args0 about1 = true := by
  rw [codes_eq]
  intro c hc
  simp only [codes1, List.mem_cons, List.not_mem_nil, or_false] at hc
  rcases hc with rfl | rfl | rfl | rfl | rfl | rfl | rfl | rfl | rfl | rfl | rfl | rfl | rfl
  · exact w_c0
  · exact w_c1
  · exact w_c2
  · exact w_c3
  · exact w_c4
  · exact w_c5
  · exact w_c6
  · exact w_c7
  · exact w_c8
  · exact w_c9
  · exact w_c10
  · exact w_c11
  · exact w_c12
set_option maxRecDepth 65536 in
theorem w_t1 : (words1.take 24).all (fun c => isCode c || c.before args0 about1) = true := by decide +kernel
set_option maxRecDepth 65536 in
theorem w_t2 : ((words1.drop 24).take 24).all (fun c => isCode c || c.before args0 about1) = true := by decide +kernel
set_option maxRecDepth 65536 in
theorem w_t3 : (((words1.drop 24).drop 24).take 24).all (fun c => isCode c || c.before args0 about1) = true := by decide +kernel
set_option maxRecDepth 65536 in
theorem w_t4 : (((words1.drop 24).drop 24).drop 24).all (fun c => isCode c || c.before args0 about1) = true := by decide +kernel
theorem w_tables : (allAtoms (Jvm.Cond.code x code maxLocals ret :: tables_1)).before args0 about1 = true := by
  rw [allAtoms_all]
  show words1.all (fun c => c.before args0 about1) = true
  refine all_split ?_ w_codes
  rw [← List.take_append_drop 24 words1, List.all_append, w_t1, ← List.take_append_drop 24 (words1.drop 24), List.all_append, w_t2, ← List.take_append_drop 24 ((words1.drop 24).drop 24), List.all_append, w_t3, w_t4]
  rfl
set_option maxRecDepth 65536 in
theorem w_rest : rest_1_c.before args0 about1 = true := by decide +kernel
set_option maxRecDepth 65536 in
theorem w_case : (Jvm.Cond.and given_1 narrow_1).before args0 about1 = true := by decide +kernel
theorem w_applies : (headSpec (Jvm.Cond.code x code maxLocals ret :: tables_1) room_1).applies x e0.platform about1 = true :=
  (Spec.applies_iff w_frames).mpr ⟨w_running, w_runnable, w_alone, w_named, w_hears, w_ripe, w_room, w_tables⟩
theorem atStart : AtStart classFile x code maxLocals ret World_1 tables_1 room_1 Calls_1 rest_1 Pre_1 launch0 p0 e0 about1 theMethod args0 below0 :=
  ⟨lists_1, trivial, launch0.admits_env _ _ _, launch0.least_env, fairChoices_fair.cas, fairChoices_fair.clock, w_frames, w_args, w_heap, w_applies, trivial, w_rest, w_case⟩
end start1
theorem witness_1 : WitnessClaimed_1 := ⟨start1.p0, start1.e0, start1.about1, start1.theMethod, start1.args0, start1.below0, start1.atStart⟩
end Jvm.Pilot.@@N@@
