import JvmDerived
import JvmDerived.Pilot.@@N@@Statement
import JvmDerived.Pilot.@@N@@Code
set_option linter.unusedVariables false
set_option linter.unusedSimpArgs false
namespace Jvm.RoadKit
open Sem ClassFile Op Lib Jvm.Stand Jvm.Free Jvm.LawKit
section New
variable {p : Program} {l : Launch} {e : Env} {R : Room} {s : State} {m : MethodId} {args : Array Value} {below : List Frame} {meth : Method} {c : Code} {T : State} {locs : List Loc} {cells slots : Nat}
theorem retI (X : Stand p l e R s m args below meth c T locs cells slots) (hx : p.tables.exec = Jvm.exec) {pc : Nat} {Ls : Array Slot} {z : Int32} {rest : List Value} (hret : meth.sig.returnType = some .int) (hd : decode c.code pc = .ok (.ireturn, 1)) {fs : List Frame}
    (hl : ∀ (f : JFrame) (acts : List Action), f.method = m → f.locked = none → f.entered = [] → (doReturn e (T.setTop f) acts (some (.int z))).1 = T.setFrames fs) : Steps p.tables e below (T.setTop (mkF m pc Ls (.int z :: rest))) (T.setFrames fs) := by
  have hm' : T.vm.method? m = some meth := X.method'
  have hn : narrow .int (.int z) = .int z := rfl
  show Steps p.tables e below (T.setTop { method := m, pc := pc, locals := Ls, stack := _ :: rest, locked := none }) _
  jvm_step X.here [X.here.top, hx, hd, hm', hret, hn]
  first | (intro acts; rw [hl _ acts rfl rfl rfl]) | rw [hl _ _ rfl rfl rfl]
  exact Steps.refl _
end New
end Jvm.RoadKit
namespace Jvm.Pilot.@@N@@
open Jvm Jvm.ClassFile Sem Op Lib Jvm.Free Jvm.Stand Jvm.LawKit Jvm.RoadKit Bundle Jvm.Pilot.@@N@@.Jvm.D
theorem d1_0 : decode method_2_code 0 = .ok (.lload_n 0, 1) := by decide +kernel
theorem d1_1 : decode method_2_code 1 = .ok (.ldc2_w 7, 3) := by decide +kernel
theorem d1_4 : decode method_2_code 4 = .ok (.ldiv, 1) := by decide +kernel
theorem d1_5 : decode method_2_code 5 = .ok (.lstore_n 2, 1) := by decide +kernel
theorem d1_6 : decode method_2_code 6 = .ok (.lload_n 0, 1) := by decide +kernel
theorem d1_7 : decode method_2_code 7 = .ok (.ldc2_w 7, 3) := by decide +kernel
theorem d1_10 : decode method_2_code 10 = .ok (.lrem, 1) := by decide +kernel
theorem d1_11 : decode method_2_code 11 = .ok (.lconst 0, 1) := by decide +kernel
theorem d1_12 : decode method_2_code 12 = .ok (.lcmp, 1) := by decide +kernel
theorem d1_13 : decode method_2_code 13 = .ok (.ifCond .ne 5, 3) := by decide +kernel
theorem d1_16 : decode method_2_code 16 = .ok (.lload_n 2, 1) := by decide +kernel
theorem d1_17 : decode method_2_code 17 = .ok (.lreturn, 1) := by decide +kernel
theorem d1_18 : decode method_2_code 18 = .ok (.lload_n 2, 1) := by decide +kernel
theorem d1_19 : decode method_2_code 19 = .ok (.lconst 1, 1) := by decide +kernel
theorem d1_20 : decode method_2_code 20 = .ok (.ladd, 1) := by decide +kernel
theorem d1_21 : decode method_2_code 21 = .ok (.lreturn, 1) := by decide +kernel
theorem d2_0 : decode prog_8_method_2_code 0 = .ok (.lload 5, 2) := by decide +kernel
theorem d2_2 : decode prog_8_method_2_code 2 = .ok (.ldc2_w 3, 3) := by decide +kernel
theorem d2_5 : decode prog_8_method_2_code 5 = .ok (.lcmp, 1) := by decide +kernel
theorem d2_6 : decode prog_8_method_2_code 6 = .ok (.ifCond .ne 9, 3) := by decide +kernel
theorem d2_9 : decode prog_8_method_2_code 9 = .ok (.ldc2_w 3, 3) := by decide +kernel
theorem d2_12 : decode prog_8_method_2_code 12 = .ok (.goto 8, 3) := by decide +kernel
theorem d2_15 : decode prog_8_method_2_code 15 = .ok (.lload 5, 2) := by decide +kernel
theorem d2_17 : decode prog_8_method_2_code 17 = .ok (.invokestatic 5, 3) := by decide +kernel
theorem d2_20 : decode prog_8_method_2_code 20 = .ok (.lstore 9, 2) := by decide +kernel
theorem d2_22 : decode prog_8_method_2_code 22 = .ok (.new 1, 3) := by decide +kernel
theorem d2_25 : decode prog_8_method_2_code 25 = .ok (.dup, 1) := by decide +kernel
theorem d2_26 : decode prog_8_method_2_code 26 = .ok (.iload_n 0, 1) := by decide +kernel
theorem d2_27 : decode prog_8_method_2_code 27 = .ok (.lload_n 1, 1) := by decide +kernel
theorem d2_28 : decode prog_8_method_2_code 28 = .ok (.lload_n 3, 1) := by decide +kernel
theorem d2_29 : decode prog_8_method_2_code 29 = .ok (.lload 9, 2) := by decide +kernel
theorem d2_31 : decode prog_8_method_2_code 31 = .ok (.lload 7, 2) := by decide +kernel
theorem d2_33 : decode prog_8_method_2_code 33 = .ok (.invokestatic 5, 3) := by decide +kernel
theorem d2_36 : decode prog_8_method_2_code 36 = .ok (.invokespecial 11, 3) := by decide +kernel
theorem d2_39 : decode prog_8_method_2_code 39 = .ok (.areturn, 1) := by decide +kernel
theorem d3_0 : decode prog_8_method_3_code 0 = .ok (.lload_n 0, 1) := by decide +kernel
theorem d3_1 : decode prog_8_method_3_code 1 = .ok (.lneg, 1) := by decide +kernel
theorem d3_2 : decode prog_8_method_3_code 2 = .ok (.ldc2_w 17, 3) := by decide +kernel
theorem d3_5 : decode prog_8_method_3_code 5 = .ok (.invokestatic 19, 3) := by decide +kernel
theorem d3_8 : decode prog_8_method_3_code 8 = .ok (.lneg, 1) := by decide +kernel
theorem d3_9 : decode prog_8_method_3_code 9 = .ok (.lreturn, 1) := by decide +kernel
theorem d4_0 : decode jdk_29_method_49_code 0 = .ok (.lload_n 0, 1) := by decide +kernel
theorem d4_1 : decode jdk_29_method_49_code 1 = .ok (.lload_n 2, 1) := by decide +kernel
theorem d4_2 : decode jdk_29_method_49_code 2 = .ok (.ldiv, 1) := by decide +kernel
theorem d4_3 : decode jdk_29_method_49_code 3 = .ok (.lstore 4, 2) := by decide +kernel
theorem d4_5 : decode jdk_29_method_49_code 5 = .ok (.lload_n 0, 1) := by decide +kernel
theorem d4_6 : decode jdk_29_method_49_code 6 = .ok (.lload_n 2, 1) := by decide +kernel
theorem d4_7 : decode jdk_29_method_49_code 7 = .ok (.lxor, 1) := by decide +kernel
theorem d4_8 : decode jdk_29_method_49_code 8 = .ok (.lconst 0, 1) := by decide +kernel
theorem d4_9 : decode jdk_29_method_49_code 9 = .ok (.lcmp, 1) := by decide +kernel
theorem d4_10 : decode jdk_29_method_49_code 10 = .ok (.ifCond .ge 17, 3) := by decide +kernel
theorem d4_13 : decode jdk_29_method_49_code 13 = .ok (.lload 4, 2) := by decide +kernel
theorem d4_15 : decode jdk_29_method_49_code 15 = .ok (.lload_n 2, 1) := by decide +kernel
theorem d4_16 : decode jdk_29_method_49_code 16 = .ok (.lmul, 1) := by decide +kernel
theorem d4_17 : decode jdk_29_method_49_code 17 = .ok (.lload_n 0, 1) := by decide +kernel
theorem d4_18 : decode jdk_29_method_49_code 18 = .ok (.lcmp, 1) := by decide +kernel
theorem d4_19 : decode jdk_29_method_49_code 19 = .ok (.ifCond .eq 8, 3) := by decide +kernel
theorem d4_22 : decode jdk_29_method_49_code 22 = .ok (.lload 4, 2) := by decide +kernel
theorem d4_24 : decode jdk_29_method_49_code 24 = .ok (.lconst 1, 1) := by decide +kernel
theorem d4_25 : decode jdk_29_method_49_code 25 = .ok (.lsub, 1) := by decide +kernel
theorem d4_26 : decode jdk_29_method_49_code 26 = .ok (.lreturn, 1) := by decide +kernel
theorem d4_27 : decode jdk_29_method_49_code 27 = .ok (.lload 4, 2) := by decide +kernel
theorem d4_29 : decode jdk_29_method_49_code 29 = .ok (.lreturn, 1) := by decide +kernel
theorem d5_0 : decode prog_3_method_2_code 0 = .ok (.aload_n 0, 1) := by decide +kernel
theorem d5_1 : decode prog_3_method_2_code 1 = .ok (.iload_n 1, 1) := by decide +kernel
theorem d5_2 : decode prog_3_method_2_code 2 = .ok (.lload_n 2, 1) := by decide +kernel
theorem d5_3 : decode prog_3_method_2_code 3 = .ok (.lload 4, 2) := by decide +kernel
theorem d5_5 : decode prog_3_method_2_code 5 = .ok (.lload 6, 2) := by decide +kernel
theorem d5_7 : decode prog_3_method_2_code 7 = .ok (.lload 8, 2) := by decide +kernel
theorem d5_9 : decode prog_3_method_2_code 9 = .ok (.iconst 0, 1) := by decide +kernel
theorem d5_10 : decode prog_3_method_2_code 10 = .ok (.invokespecial 45, 3) := by decide +kernel
theorem d5_13 : decode prog_3_method_2_code 13 = .ok (.return_, 1) := by decide +kernel
theorem d6_0 : decode prog_3_method_1_code 0 = .ok (.aload_n 0, 1) := by decide +kernel
theorem d6_1 : decode prog_3_method_1_code 1 = .ok (.invokespecial 1, 3) := by decide +kernel
theorem d6_4 : decode prog_3_method_1_code 4 = .ok (.lload 4, 2) := by decide +kernel
theorem d6_6 : decode prog_3_method_1_code 6 = .ok (.lconst 0, 1) := by decide +kernel
theorem d6_7 : decode prog_3_method_1_code 7 = .ok (.lcmp, 1) := by decide +kernel
theorem d6_8 : decode prog_3_method_1_code 8 = .ok (.ifCond .lt 10, 3) := by decide +kernel
theorem d6_11 : decode prog_3_method_1_code 11 = .ok (.lload 4, 2) := by decide +kernel
theorem d6_13 : decode prog_3_method_1_code 13 = .ok (.lload_n 2, 1) := by decide +kernel
theorem d6_14 : decode prog_3_method_1_code 14 = .ok (.lcmp, 1) := by decide +kernel
theorem d6_15 : decode prog_3_method_1_code 15 = .ok (.ifCond .le 19, 3) := by decide +kernel
theorem d6_34 : decode prog_3_method_1_code 34 = .ok (.lload 6, 2) := by decide +kernel
theorem d6_36 : decode prog_3_method_1_code 36 = .ok (.ldc2_w 18, 3) := by decide +kernel
theorem d6_39 : decode prog_3_method_1_code 39 = .ok (.lcmp, 1) := by decide +kernel
theorem d6_40 : decode prog_3_method_1_code 40 = .ok (.ifCond .ge 18, 3) := by decide +kernel
theorem d6_58 : decode prog_3_method_1_code 58 = .ok (.iload_n 1, 1) := by decide +kernel
theorem d6_59 : decode prog_3_method_1_code 59 = .ok (.ifCond .eq 27, 3) := by decide +kernel
theorem d6_62 : decode prog_3_method_1_code 62 = .ok (.lload 6, 2) := by decide +kernel
theorem d6_64 : decode prog_3_method_1_code 64 = .ok (.ldc2_w 18, 3) := by decide +kernel
theorem d6_67 : decode prog_3_method_1_code 67 = .ok (.lcmp, 1) := by decide +kernel
theorem d6_68 : decode prog_3_method_1_code 68 = .ok (.ifCond .eq 18, 3) := by decide +kernel
theorem d6_86 : decode prog_3_method_1_code 86 = .ok (.lload 8, 2) := by decide +kernel
theorem d6_88 : decode prog_3_method_1_code 88 = .ok (.lconst 0, 1) := by decide +kernel
theorem d6_89 : decode prog_3_method_1_code 89 = .ok (.lcmp, 1) := by decide +kernel
theorem d6_90 : decode prog_3_method_1_code 90 = .ok (.ifCond .ge 18, 3) := by decide +kernel
theorem d6_108 : decode prog_3_method_1_code 108 = .ok (.aload_n 0, 1) := by decide +kernel
theorem d6_109 : decode prog_3_method_1_code 109 = .ok (.iload_n 1, 1) := by decide +kernel
theorem d6_110 : decode prog_3_method_1_code 110 = .ok (.putfield 25, 3) := by decide +kernel
theorem d6_113 : decode prog_3_method_1_code 113 = .ok (.aload_n 0, 1) := by decide +kernel
theorem d6_114 : decode prog_3_method_1_code 114 = .ok (.lload_n 2, 1) := by decide +kernel
theorem d6_115 : decode prog_3_method_1_code 115 = .ok (.putfield 29, 3) := by decide +kernel
theorem d6_118 : decode prog_3_method_1_code 118 = .ok (.aload_n 0, 1) := by decide +kernel
theorem d6_119 : decode prog_3_method_1_code 119 = .ok (.lload 4, 2) := by decide +kernel
theorem d6_121 : decode prog_3_method_1_code 121 = .ok (.putfield 33, 3) := by decide +kernel
theorem d6_124 : decode prog_3_method_1_code 124 = .ok (.aload_n 0, 1) := by decide +kernel
theorem d6_125 : decode prog_3_method_1_code 125 = .ok (.lload 6, 2) := by decide +kernel
theorem d6_127 : decode prog_3_method_1_code 127 = .ok (.putfield 36, 3) := by decide +kernel
theorem d6_130 : decode prog_3_method_1_code 130 = .ok (.aload_n 0, 1) := by decide +kernel
theorem d6_131 : decode prog_3_method_1_code 131 = .ok (.lload 8, 2) := by decide +kernel
theorem d6_133 : decode prog_3_method_1_code 133 = .ok (.putfield 39, 3) := by decide +kernel
theorem d6_136 : decode prog_3_method_1_code 136 = .ok (.aload_n 0, 1) := by decide +kernel
theorem d6_137 : decode prog_3_method_1_code 137 = .ok (.iload 10, 2) := by decide +kernel
theorem d6_139 : decode prog_3_method_1_code 139 = .ok (.putfield 42, 3) := by decide +kernel
theorem d6_142 : decode prog_3_method_1_code 142 = .ok (.return_, 1) := by decide +kernel
theorem d7_0 : decode jdk_30_method_1_code 0 = .ok (.aload_n 0, 1) := by decide +kernel
theorem d7_1 : decode jdk_30_method_1_code 1 = .ok (.invokespecial 1, 3) := by decide +kernel
theorem d7_4 : decode jdk_30_method_1_code 4 = .ok (.return_, 1) := by decide +kernel
theorem d9_0 : decode prog_3_method_10_code 0 = .ok (.aload_n 0, 1) := by decide +kernel
theorem d9_1 : decode prog_3_method_10_code 1 = .ok (.getfield 25, 3) := by decide +kernel
theorem d9_4 : decode prog_3_method_10_code 4 = .ok (.ireturn, 1) := by decide +kernel
theorem d10_0 : decode prog_3_method_11_code 0 = .ok (.aload_n 0, 1) := by decide +kernel
theorem d10_1 : decode prog_3_method_11_code 1 = .ok (.getfield 29, 3) := by decide +kernel
theorem d10_4 : decode prog_3_method_11_code 4 = .ok (.lreturn, 1) := by decide +kernel
theorem d11_0 : decode prog_3_method_12_code 0 = .ok (.aload_n 0, 1) := by decide +kernel
theorem d11_1 : decode prog_3_method_12_code 1 = .ok (.getfield 33, 3) := by decide +kernel
theorem d11_4 : decode prog_3_method_12_code 4 = .ok (.lreturn, 1) := by decide +kernel
theorem d12_0 : decode prog_3_method_13_code 0 = .ok (.aload_n 0, 1) := by decide +kernel
theorem d12_1 : decode prog_3_method_13_code 1 = .ok (.getfield 36, 3) := by decide +kernel
theorem d12_4 : decode prog_3_method_13_code 4 = .ok (.lreturn, 1) := by decide +kernel
theorem d13_0 : decode prog_3_method_14_code 0 = .ok (.aload_n 0, 1) := by decide +kernel
theorem d13_1 : decode prog_3_method_14_code 1 = .ok (.getfield 39, 3) := by decide +kernel
theorem d13_4 : decode prog_3_method_14_code 4 = .ok (.lreturn, 1) := by decide +kernel
theorem d14_0 : decode prog_3_method_15_code 0 = .ok (.aload_n 0, 1) := by decide +kernel
theorem d14_1 : decode prog_3_method_15_code 1 = .ok (.getfield 42, 3) := by decide +kernel
theorem d14_4 : decode prog_3_method_15_code 4 = .ok (.ireturn, 1) := by decide +kernel
theorem pn_0 : plainName "com/example/burst/burst/MemoryRuleDecisionPinLaw" = true := by first | (simp [plainName, overriddenIn]; done) | decide +kernel
theorem pn_1 : plainName "com/example/burst/burst/MemoryRule" = true := by first | (simp [plainName, overriddenIn]; done) | decide +kernel
theorem pn_2 : plainName "java/lang/Record" = true := by first | (simp [plainName, overriddenIn]; done) | decide +kernel
theorem pn_3 : plainName "com/example/burst/burst/Decision" = true := by first | (simp [plainName, overriddenIn]; done) | decide +kernel
theorem pd_0 : parseMethodDescriptor "(J)J" = some ⟨[.long], some .long⟩ := by decide +kernel
theorem pd_1 : parseMethodDescriptor "(JJ)J" = some ⟨[.long, .long], some .long⟩ := by decide +kernel
theorem pd_2 : parseMethodDescriptor "()V" = some ⟨[], none⟩ := by decide +kernel
theorem pd_3 : parseMethodDescriptor "(ZJJJJZ)V" = some ⟨[.boolean, .long, .long, .long, .long, .boolean], none⟩ := by decide +kernel
theorem pd_4 : parseMethodDescriptor "(ZJJJJ)V" = some ⟨[.boolean, .long, .long, .long, .long], none⟩ := by decide +kernel
theorem pd_5 : parseMethodDescriptor "(ZJJJJ)Lcom/example/burst/burst/Decision;" = some ⟨[.boolean, .long, .long, .long, .long], some (.object "com/example/burst/burst/Decision")⟩ := by decide +kernel
theorem pd_6 : parseMethodDescriptor "()Z" = some ⟨[], some .boolean⟩ := by decide +kernel
theorem pd_7 : parseMethodDescriptor "()J" = some ⟨[], some .long⟩ := by decide +kernel
theorem own_nar1 {x : Int32} (h : x = 1) : nar .boolean x = 1 := by subst h; rfl
theorem own_n0 : nar .boolean (0 : Int32) = 0 := rfl
theorem own_n1 : nar .boolean (1 : Int32) = 1 := rfl
theorem own_m63 (j : Int64) : 0 ≤ (j &&& (9223372036854775807 : Int64)).toInt := by
  rw [c_maskL j 9223372036854775807 63 (by decide) (by decide)]
  exact Int.emod_nonneg _ (by decide)
theorem own_m63n (j : Int64) : ¬ (j &&& (9223372036854775807 : Int64)) < (0 : Int64) := by
  rw [Int64.lt_iff_toInt_lt]
  have := own_m63 j
  show ¬ _ < (0 : Int)
  omega
def own_r1 (j1 : Int64) : Int64 := (if (j1 - (j1 / (1000 : Int64)) * (1000 : Int64)) = (0 : Int64) then (j1 / (1000 : Int64)) else ((j1 / (1000 : Int64)) + (1 : Int64)))
def Q1 (Z : State) (j1 : Int64) (h0 : Heap) (n0 : Nat) (v : Option Value) (h : Heap) (L : List Loc) : Prop := v = some (.long (own_r1 j1)) ∧ Fr n0 L ∧ h = h0
theorem ef_1 (m : MethodId) (x0 : Int64) : entryFrame m #[(.long x0)] 4 = mkF m 0 #[.val (.long x0), .second, .unset, .unset] [] := by first | (simp [entryFrame, mkF, argsToLocals, Value.category]; done) | rfl
set_option maxRecDepth 65536 in
set_option maxHeartbeats 40000000 in
theorem rm1 (l : Launch) (Z : State) (a0 : Array Value) (hw : ∀ d ∈ tables_1, d.before a0 Z = true) (ws : List Jvm.Cond) (j1 : Int64) (h0 : Heap) (n0 : Nat) (Z0 : n0 ≤ h0.size) :
    MetFree l (⟨"com/example/burst/burst/MemoryRuleDecisionPinLaw", "ceilMillis", "(J)J"⟩ : MethodName) (head1 (Jvm.Cond.code (⟨"com/example/burst/burst/MemoryRuleDecisionPinLaw", "ceilMillis", "(J)J"⟩ : MethodName) method_2_code 4 (some .long) :: ws) ({ frames := 0, cells := 0, slots := 0, locals := 0 } : Room)) (fun a U => a = #[(.long j1)] ∧ Z.Warmed39 U.vm ∧ U.heap = h0) (fun _ _ _ _ _ => True) (fun _ U o U' => ∃ v L, o = .returned v ∧ Q1 Z j1 h0 n0 v U'.heap L ∧ FrameEnd U o U' L ({ frames := 0, cells := 0, slots := 0, locals := 0 } : Room).cells ({ frames := 0, cells := 0, slots := 0, locals := 0 } : Room).slots) := by
  refine MetFree.of_bodySF (plainFor_of_name pn_0) hisR ?_
  intro p e s m args below meth c s₁ Bd hml0 hP hK
  obtain ⟨rfl, hZ, hh⟩ := hP
  have hx := Bd.exec
  have hby := Bd.bytes
  have hml : c.maxLocals = 4 := hml0
  have hown : s.vm.findClass "com/example/burst/burst/MemoryRuleDecisionPinLaw" = some m.cls := findClass_of_methodNamed Bd.named
  have hnm := (name_of_methodNamed Bd.named Bd.method).1
  have X0 : Stand p l e ({ frames := 0, cells := 0, slots := 0, locals := 0 } : Room) s m #[(.long j1)] below meth c s₁ [] 0 0 := Stand.of_body Bd
  have e0 : s₁.heap = h0 := by rw [← hh, Bd.state]; rfl
  have N0 := Fr.nil n0
  have pre0 : ∀ t, Steps p.tables e below (s₁.setTop (mkF m 0 #[.val (.long j1), .second, .unset, .unset] [])) t → Steps p.tables e below (s₁.setTop (entryFrame m #[(.long j1)] 4)) t := fun t k => castTop (ef_1 m j1) k
  have pre1 : ∀ t, Steps p.tables e below (s₁.setTop (mkF m 13 #[.val (.long j1), .second, .val (.long (j1 / (1000 : Int64))), .second] [(.int (lcmpW (j1 - (j1 / (1000 : Int64)) * (1000 : Int64)) (0 : Int64)))])) t → Steps p.tables e below (s₁.setTop (entryFrame m #[(.long j1)] 4)) t := by
    intro t k
    refine pre0 _ ?_
    show Steps p.tables e below (s₁.setTop (mkF m 0 #[.val (.long j1), .second, .unset, .unset] [])) _
    refine XS.lloadN X0.here hx rfl (hb hby d1_0) rfl ?_
    show Steps p.tables e below (s₁.setTop (mkF m 1 #[.val (.long j1), .second, .unset, .unset] [(.long j1)])) _
    refine X0.ldc2Long hx hown (mvT hZ (hw _ (List.mem_of_getElem? (i := 6) rfl))) (g := (mkF m 1 #[.val (.long j1), .second, .unset, .unset] [(.long j1)])) rfl (hb hby d1_1) _ ?_
    show Steps p.tables e below (s₁.setTop (mkF m 4 #[.val (.long j1), .second, .unset, .unset] [(.long (1000 : Int64)), (.long j1)])) _
    refine XS.ldiv X0.here hx rfl (hb hby d1_4) rfl (by decide) ?_
    show Steps p.tables e below (s₁.setTop (mkF m 5 #[.val (.long j1), .second, .unset, .unset] [(.long (j1 / (1000 : Int64)))])) _
    refine XS.lstoreN X0.here hx rfl (hb hby d1_5) rfl (l' := #[.val (.long j1), .second, .val (.long (j1 / (1000 : Int64))), .second]) rfl ?_
    show Steps p.tables e below (s₁.setTop (mkF m 6 #[.val (.long j1), .second, .val (.long (j1 / (1000 : Int64))), .second] [])) _
    refine XS.lloadN X0.here hx rfl (hb hby d1_6) rfl ?_
    show Steps p.tables e below (s₁.setTop (mkF m 7 #[.val (.long j1), .second, .val (.long (j1 / (1000 : Int64))), .second] [(.long j1)])) _
    refine X0.ldc2Long hx hown (mvT hZ (hw _ (List.mem_of_getElem? (i := 6) rfl))) (g := (mkF m 7 #[.val (.long j1), .second, .val (.long (j1 / (1000 : Int64))), .second] [(.long j1)])) rfl (hb hby d1_7) _ ?_
    show Steps p.tables e below (s₁.setTop (mkF m 10 #[.val (.long j1), .second, .val (.long (j1 / (1000 : Int64))), .second] [(.long (1000 : Int64)), (.long j1)])) _
    refine XS.lrem X0.here hx rfl (hb hby d1_10) rfl (by decide) ?_
    show Steps p.tables e below (s₁.setTop (mkF m 11 #[.val (.long j1), .second, .val (.long (j1 / (1000 : Int64))), .second] [(.long (j1 - (j1 / (1000 : Int64)) * (1000 : Int64)))])) _
    refine XS.lconst X0.here hx rfl (hb hby d1_11) ?_
    show Steps p.tables e below (s₁.setTop (mkF m 12 #[.val (.long j1), .second, .val (.long (j1 / (1000 : Int64))), .second] [(.long (0 : Int64)), (.long (j1 - (j1 / (1000 : Int64)) * (1000 : Int64)))])) _
    refine XS.lcmp X0.here hx rfl (hb hby d1_12) rfl ?_
    exact k
  by_cases hc13_2 : (j1 - (j1 / (1000 : Int64)) * (1000 : Int64)) = (0 : Int64)
  · have pre3 : ∀ t, Steps p.tables e below (s₁.setTop (mkF m 17 #[.val (.long j1), .second, .val (.long (j1 / (1000 : Int64))), .second] [(.long (j1 / (1000 : Int64)))])) t → Steps p.tables e below (s₁.setTop (entryFrame m #[(.long j1)] 4)) t := by
      intro t k
      refine pre1 _ ?_
      show Steps p.tables e below (s₁.setTop (mkF m 13 #[.val (.long j1), .second, .val (.long (j1 / (1000 : Int64))), .second] [(.int (lcmpW (j1 - (j1 / (1000 : Int64)) * (1000 : Int64)) (0 : Int64)))])) _
      refine XS.ifNo X0.here hx rfl (hb hby d1_13) rfl ((if0 _ _).trans (teq ((lw_eq (j1 - (j1 / (1000 : Int64)) * (1000 : Int64)) (0 : Int64)).mpr hc13_2)).2) ?_
      show Steps p.tables e below (s₁.setTop (mkF m 16 #[.val (.long j1), .second, .val (.long (j1 / (1000 : Int64))), .second] [])) _
      refine XS.lloadN X0.here hx rfl (hb hby d1_16) rfl ?_
      exact k
    obtain ⟨fs, hr, hrun, hended, hW, hsame⟩ := X0.leave (v := some (.long (j1 / (1000 : Int64)))) (fun h => by rw [Bd.returns] at h; cases h)
    refine ⟨_, _, pre3 _ ?_, hrun, hended, _, _, rfl, ?_, ⟨_, rfl⟩, hW, hsame.mono (by decide) (by decide)⟩
    · show Steps p.tables e below (s₁.setTop (mkF m 17 #[.val (.long j1), .second, .val (.long (j1 / (1000 : Int64))), .second] [(.long (j1 / (1000 : Int64)))])) _
      jvm_step X0.here [X0.here.top, hx, (hb hby d1_17), X0.method', Bd.returns, narrow]
      first | (intro acts; rw [hr _ acts rfl rfl rfl]) | rw [hr _ _ rfl rfl rfl]
      exact Steps.refl _
    · show Q1 Z j1 h0 n0 _ s₁.heap _
      rw [e0]
      exact ⟨congrArg (fun z => some (Value.long z)) (show (own_r1 j1) = (j1 / (1000 : Int64)) from (if_pos hc13_2)).symm, N0, rfl⟩
  · have pre4 : ∀ t, Steps p.tables e below (s₁.setTop (mkF m 21 #[.val (.long j1), .second, .val (.long (j1 / (1000 : Int64))), .second] [(.long ((j1 / (1000 : Int64)) + (1 : Int64)))])) t → Steps p.tables e below (s₁.setTop (entryFrame m #[(.long j1)] 4)) t := by
      intro t k
      refine pre1 _ ?_
      show Steps p.tables e below (s₁.setTop (mkF m 13 #[.val (.long j1), .second, .val (.long (j1 / (1000 : Int64))), .second] [(.int (lcmpW (j1 - (j1 / (1000 : Int64)) * (1000 : Int64)) (0 : Int64)))])) _
      refine XS.ifYes X0.here hx rfl (pc0 := 13) (pc' := 18) rfl (hb hby d1_13) rfl ((if0 _ _).trans (feq (mt (lw_eq (j1 - (j1 / (1000 : Int64)) * (1000 : Int64)) (0 : Int64)).mp hc13_2)).2) (by decide) (by decide) ?_
      show Steps p.tables e below (s₁.setTop (mkF m 18 #[.val (.long j1), .second, .val (.long (j1 / (1000 : Int64))), .second] [])) _
      refine XS.lloadN X0.here hx rfl (hb hby d1_18) rfl ?_
      show Steps p.tables e below (s₁.setTop (mkF m 19 #[.val (.long j1), .second, .val (.long (j1 / (1000 : Int64))), .second] [(.long (j1 / (1000 : Int64)))])) _
      refine XS.lconst X0.here hx rfl (hb hby d1_19) ?_
      show Steps p.tables e below (s₁.setTop (mkF m 20 #[.val (.long j1), .second, .val (.long (j1 / (1000 : Int64))), .second] [(.long (1 : Int64)), (.long (j1 / (1000 : Int64)))])) _
      refine XS.ladd X0.here hx rfl (hb hby d1_20) rfl ?_
      exact k
    obtain ⟨fs, hr, hrun, hended, hW, hsame⟩ := X0.leave (v := some (.long ((j1 / (1000 : Int64)) + (1 : Int64)))) (fun h => by rw [Bd.returns] at h; cases h)
    refine ⟨_, _, pre4 _ ?_, hrun, hended, _, _, rfl, ?_, ⟨_, rfl⟩, hW, hsame.mono (by decide) (by decide)⟩
    · show Steps p.tables e below (s₁.setTop (mkF m 21 #[.val (.long j1), .second, .val (.long (j1 / (1000 : Int64))), .second] [(.long ((j1 / (1000 : Int64)) + (1 : Int64)))])) _
      jvm_step X0.here [X0.here.top, hx, (hb hby d1_21), X0.method', Bd.returns, narrow]
      first | (intro acts; rw [hr _ acts rfl rfl rfl]) | rw [hr _ _ rfl rfl rfl]
      exact Steps.refl _
    · show Q1 Z j1 h0 n0 _ s₁.heap _
      rw [e0]
      exact ⟨congrArg (fun z => some (Value.long z)) (show (own_r1 j1) = ((j1 / (1000 : Int64)) + (1 : Int64)) from (if_neg hc13_2)).symm, N0, rfl⟩
def own_r4 (j1 : Int64) (j2 : Int64) : Int64 := (if (j1 ^^^ j2) < (0 : Int64) then (if ((j1 / j2) * j2) = j1 then (j1 / j2) else ((j1 / j2) - (1 : Int64))) else (j1 / j2))
def Q4 (Z : State) (j1 : Int64) (j2 : Int64) (h0 : Heap) (n0 : Nat) (v : Option Value) (h : Heap) (L : List Loc) : Prop := v = some (.long (own_r4 j1 j2)) ∧ Fr n0 L ∧ h = h0
theorem ef_4 (m : MethodId) (x0 : Int64) (x1 : Int64) : entryFrame m #[(.long x0), (.long x1)] 6 = mkF m 0 #[.val (.long x0), .second, .val (.long x1), .second, .unset, .unset] [] := by first | (simp [entryFrame, mkF, argsToLocals, Value.category]; done) | rfl
set_option maxRecDepth 65536 in
set_option maxHeartbeats 40000000 in
theorem rm4 (l : Launch) (Z : State) (a0 : Array Value) (hw : ∀ d ∈ tables_1, d.before a0 Z = true) (ws : List Jvm.Cond) (j1 : Int64) (j2 : Int64) (h0 : Heap) (n0 : Nat) (Z0 : n0 ≤ h0.size) (hnz2 : ¬ (j2 = (0 : Int64))) :
    MetFree l (⟨"java/lang/Math", "floorDiv", "(JJ)J"⟩ : MethodName) (head1 (Jvm.Cond.code (⟨"java/lang/Math", "floorDiv", "(JJ)J"⟩ : MethodName) jdk_29_method_49_code 6 (some .long) :: ws) ({ frames := 0, cells := 0, slots := 0, locals := 0 } : Room)) (fun a U => a = #[(.long j1), (.long j2)] ∧ Z.Warmed39 U.vm ∧ U.heap = h0) (fun _ _ _ _ _ => True) (fun _ U o U' => ∃ v L, o = .returned v ∧ Q4 Z j1 j2 h0 n0 v U'.heap L ∧ FrameEnd U o U' L ({ frames := 0, cells := 0, slots := 0, locals := 0 } : Room).cells ({ frames := 0, cells := 0, slots := 0, locals := 0 } : Room).slots) := by
  refine MetFree.of_bodySF (Jvm.Free.JP.mathPlain rfl (by decide +kernel)) hisR ?_
  intro p e s m args below meth c s₁ Bd hml0 hP hK
  obtain ⟨rfl, hZ, hh⟩ := hP
  have hx := Bd.exec
  have hby := Bd.bytes
  have hml : c.maxLocals = 6 := hml0
  have hown : s.vm.findClass "java/lang/Math" = some m.cls := findClass_of_methodNamed Bd.named
  have hnm := (name_of_methodNamed Bd.named Bd.method).1
  have X0 : Stand p l e ({ frames := 0, cells := 0, slots := 0, locals := 0 } : Room) s m #[(.long j1), (.long j2)] below meth c s₁ [] 0 0 := Stand.of_body Bd
  have e0 : s₁.heap = h0 := by rw [← hh, Bd.state]; rfl
  have N0 := Fr.nil n0
  have pre0 : ∀ t, Steps p.tables e below (s₁.setTop (mkF m 0 #[.val (.long j1), .second, .val (.long j2), .second, .unset, .unset] [])) t → Steps p.tables e below (s₁.setTop (entryFrame m #[(.long j1), (.long j2)] 6)) t := fun t k => castTop (ef_4 m j1 j2) k
  have pre1 : ∀ t, Steps p.tables e below (s₁.setTop (mkF m 10 #[.val (.long j1), .second, .val (.long j2), .second, .val (.long (j1 / j2)), .second] [(.int (lcmpW (j1 ^^^ j2) (0 : Int64)))])) t → Steps p.tables e below (s₁.setTop (entryFrame m #[(.long j1), (.long j2)] 6)) t := by
    intro t k
    refine pre0 _ ?_
    show Steps p.tables e below (s₁.setTop (mkF m 0 #[.val (.long j1), .second, .val (.long j2), .second, .unset, .unset] [])) _
    refine XS.lloadN X0.here hx rfl (hb hby d4_0) rfl ?_
    show Steps p.tables e below (s₁.setTop (mkF m 1 #[.val (.long j1), .second, .val (.long j2), .second, .unset, .unset] [(.long j1)])) _
    refine XS.lloadN X0.here hx rfl (hb hby d4_1) rfl ?_
    show Steps p.tables e below (s₁.setTop (mkF m 2 #[.val (.long j1), .second, .val (.long j2), .second, .unset, .unset] [(.long j2), (.long j1)])) _
    refine XS.ldiv X0.here hx rfl (hb hby d4_2) rfl hnz2 ?_
    show Steps p.tables e below (s₁.setTop (mkF m 3 #[.val (.long j1), .second, .val (.long j2), .second, .unset, .unset] [(.long (j1 / j2))])) _
    refine XS.lstore X0.here hx rfl (hb hby d4_3) rfl (l' := #[.val (.long j1), .second, .val (.long j2), .second, .val (.long (j1 / j2)), .second]) rfl ?_
    show Steps p.tables e below (s₁.setTop (mkF m 5 #[.val (.long j1), .second, .val (.long j2), .second, .val (.long (j1 / j2)), .second] [])) _
    refine XS.lloadN X0.here hx rfl (hb hby d4_5) rfl ?_
    show Steps p.tables e below (s₁.setTop (mkF m 6 #[.val (.long j1), .second, .val (.long j2), .second, .val (.long (j1 / j2)), .second] [(.long j1)])) _
    refine XS.lloadN X0.here hx rfl (hb hby d4_6) rfl ?_
    show Steps p.tables e below (s₁.setTop (mkF m 7 #[.val (.long j1), .second, .val (.long j2), .second, .val (.long (j1 / j2)), .second] [(.long j2), (.long j1)])) _
    refine XS.lxor X0.here hx rfl (hb hby d4_7) rfl ?_
    show Steps p.tables e below (s₁.setTop (mkF m 8 #[.val (.long j1), .second, .val (.long j2), .second, .val (.long (j1 / j2)), .second] [(.long (j1 ^^^ j2))])) _
    refine XS.lconst X0.here hx rfl (hb hby d4_8) ?_
    show Steps p.tables e below (s₁.setTop (mkF m 9 #[.val (.long j1), .second, .val (.long j2), .second, .val (.long (j1 / j2)), .second] [(.long (0 : Int64)), (.long (j1 ^^^ j2))])) _
    refine XS.lcmp X0.here hx rfl (hb hby d4_9) rfl ?_
    exact k
  by_cases hc10_2 : (j1 ^^^ j2) < (0 : Int64)
  · have pre3 : ∀ t, Steps p.tables e below (s₁.setTop (mkF m 19 #[.val (.long j1), .second, .val (.long j2), .second, .val (.long (j1 / j2)), .second] [(.int (lcmpW ((j1 / j2) * j2) j1))])) t → Steps p.tables e below (s₁.setTop (entryFrame m #[(.long j1), (.long j2)] 6)) t := by
      intro t k
      refine pre1 _ ?_
      show Steps p.tables e below (s₁.setTop (mkF m 10 #[.val (.long j1), .second, .val (.long j2), .second, .val (.long (j1 / j2)), .second] [(.int (lcmpW (j1 ^^^ j2) (0 : Int64)))])) _
      refine XS.ifNo X0.here hx rfl (hb hby d4_10) rfl ((if0 _ _).trans (tlt ((lw_lt (j1 ^^^ j2) (0 : Int64)).mpr hc10_2)).2.1) ?_
      show Steps p.tables e below (s₁.setTop (mkF m 13 #[.val (.long j1), .second, .val (.long j2), .second, .val (.long (j1 / j2)), .second] [])) _
      refine XS.lload X0.here hx rfl (hb hby d4_13) rfl ?_
      show Steps p.tables e below (s₁.setTop (mkF m 15 #[.val (.long j1), .second, .val (.long j2), .second, .val (.long (j1 / j2)), .second] [(.long (j1 / j2))])) _
      refine XS.lloadN X0.here hx rfl (hb hby d4_15) rfl ?_
      show Steps p.tables e below (s₁.setTop (mkF m 16 #[.val (.long j1), .second, .val (.long j2), .second, .val (.long (j1 / j2)), .second] [(.long j2), (.long (j1 / j2))])) _
      refine XS.lmul X0.here hx rfl (hb hby d4_16) rfl ?_
      show Steps p.tables e below (s₁.setTop (mkF m 17 #[.val (.long j1), .second, .val (.long j2), .second, .val (.long (j1 / j2)), .second] [(.long ((j1 / j2) * j2))])) _
      refine XS.lloadN X0.here hx rfl (hb hby d4_17) rfl ?_
      show Steps p.tables e below (s₁.setTop (mkF m 18 #[.val (.long j1), .second, .val (.long j2), .second, .val (.long (j1 / j2)), .second] [(.long j1), (.long ((j1 / j2) * j2))])) _
      refine XS.lcmp X0.here hx rfl (hb hby d4_18) rfl ?_
      exact k
    by_cases hc19_4 : ((j1 / j2) * j2) = j1
    · have pre5 : ∀ t, Steps p.tables e below (s₁.setTop (mkF m 29 #[.val (.long j1), .second, .val (.long j2), .second, .val (.long (j1 / j2)), .second] [(.long (j1 / j2))])) t → Steps p.tables e below (s₁.setTop (entryFrame m #[(.long j1), (.long j2)] 6)) t := by
        intro t k
        refine pre3 _ ?_
        show Steps p.tables e below (s₁.setTop (mkF m 19 #[.val (.long j1), .second, .val (.long j2), .second, .val (.long (j1 / j2)), .second] [(.int (lcmpW ((j1 / j2) * j2) j1))])) _
        refine XS.ifYes X0.here hx rfl (pc0 := 19) (pc' := 27) rfl (hb hby d4_19) rfl ((if0 _ _).trans (teq ((lw_eq ((j1 / j2) * j2) j1).mpr hc19_4)).1) (by decide) (by decide) ?_
        show Steps p.tables e below (s₁.setTop (mkF m 27 #[.val (.long j1), .second, .val (.long j2), .second, .val (.long (j1 / j2)), .second] [])) _
        refine XS.lload X0.here hx rfl (hb hby d4_27) rfl ?_
        exact k
      obtain ⟨fs, hr, hrun, hended, hW, hsame⟩ := X0.leave (v := some (.long (j1 / j2))) (fun h => by rw [Bd.returns] at h; cases h)
      refine ⟨_, _, pre5 _ ?_, hrun, hended, _, _, rfl, ?_, ⟨_, rfl⟩, hW, hsame.mono (by decide) (by decide)⟩
      · show Steps p.tables e below (s₁.setTop (mkF m 29 #[.val (.long j1), .second, .val (.long j2), .second, .val (.long (j1 / j2)), .second] [(.long (j1 / j2))])) _
        jvm_step X0.here [X0.here.top, hx, (hb hby d4_29), X0.method', Bd.returns, narrow]
        first | (intro acts; rw [hr _ acts rfl rfl rfl]) | rw [hr _ _ rfl rfl rfl]
        exact Steps.refl _
      · show Q4 Z j1 j2 h0 n0 _ s₁.heap _
        rw [e0]
        exact ⟨congrArg (fun z => some (Value.long z)) (show (own_r4 j1 j2) = (j1 / j2) from ((if_pos hc10_2).trans (if_pos hc19_4))).symm, N0, rfl⟩
    · have pre6 : ∀ t, Steps p.tables e below (s₁.setTop (mkF m 26 #[.val (.long j1), .second, .val (.long j2), .second, .val (.long (j1 / j2)), .second] [(.long ((j1 / j2) - (1 : Int64)))])) t → Steps p.tables e below (s₁.setTop (entryFrame m #[(.long j1), (.long j2)] 6)) t := by
        intro t k
        refine pre3 _ ?_
        show Steps p.tables e below (s₁.setTop (mkF m 19 #[.val (.long j1), .second, .val (.long j2), .second, .val (.long (j1 / j2)), .second] [(.int (lcmpW ((j1 / j2) * j2) j1))])) _
        refine XS.ifNo X0.here hx rfl (hb hby d4_19) rfl ((if0 _ _).trans (feq (mt (lw_eq ((j1 / j2) * j2) j1).mp hc19_4)).1) ?_
        show Steps p.tables e below (s₁.setTop (mkF m 22 #[.val (.long j1), .second, .val (.long j2), .second, .val (.long (j1 / j2)), .second] [])) _
        refine XS.lload X0.here hx rfl (hb hby d4_22) rfl ?_
        show Steps p.tables e below (s₁.setTop (mkF m 24 #[.val (.long j1), .second, .val (.long j2), .second, .val (.long (j1 / j2)), .second] [(.long (j1 / j2))])) _
        refine XS.lconst X0.here hx rfl (hb hby d4_24) ?_
        show Steps p.tables e below (s₁.setTop (mkF m 25 #[.val (.long j1), .second, .val (.long j2), .second, .val (.long (j1 / j2)), .second] [(.long (1 : Int64)), (.long (j1 / j2))])) _
        refine XS.lsub X0.here hx rfl (hb hby d4_25) rfl ?_
        exact k
      obtain ⟨fs, hr, hrun, hended, hW, hsame⟩ := X0.leave (v := some (.long ((j1 / j2) - (1 : Int64)))) (fun h => by rw [Bd.returns] at h; cases h)
      refine ⟨_, _, pre6 _ ?_, hrun, hended, _, _, rfl, ?_, ⟨_, rfl⟩, hW, hsame.mono (by decide) (by decide)⟩
      · show Steps p.tables e below (s₁.setTop (mkF m 26 #[.val (.long j1), .second, .val (.long j2), .second, .val (.long (j1 / j2)), .second] [(.long ((j1 / j2) - (1 : Int64)))])) _
        jvm_step X0.here [X0.here.top, hx, (hb hby d4_26), X0.method', Bd.returns, narrow]
        first | (intro acts; rw [hr _ acts rfl rfl rfl]) | rw [hr _ _ rfl rfl rfl]
        exact Steps.refl _
      · show Q4 Z j1 j2 h0 n0 _ s₁.heap _
        rw [e0]
        exact ⟨congrArg (fun z => some (Value.long z)) (show (own_r4 j1 j2) = ((j1 / j2) - (1 : Int64)) from ((if_pos hc10_2).trans (if_neg hc19_4))).symm, N0, rfl⟩
  · have pre7 : ∀ t, Steps p.tables e below (s₁.setTop (mkF m 29 #[.val (.long j1), .second, .val (.long j2), .second, .val (.long (j1 / j2)), .second] [(.long (j1 / j2))])) t → Steps p.tables e below (s₁.setTop (entryFrame m #[(.long j1), (.long j2)] 6)) t := by
      intro t k
      refine pre1 _ ?_
      show Steps p.tables e below (s₁.setTop (mkF m 10 #[.val (.long j1), .second, .val (.long j2), .second, .val (.long (j1 / j2)), .second] [(.int (lcmpW (j1 ^^^ j2) (0 : Int64)))])) _
      refine XS.ifYes X0.here hx rfl (pc0 := 10) (pc' := 27) rfl (hb hby d4_10) rfl ((if0 _ _).trans (flt (mt (lw_lt (j1 ^^^ j2) (0 : Int64)).mp hc10_2)).2.1) (by decide) (by decide) ?_
      show Steps p.tables e below (s₁.setTop (mkF m 27 #[.val (.long j1), .second, .val (.long j2), .second, .val (.long (j1 / j2)), .second] [])) _
      refine XS.lload X0.here hx rfl (hb hby d4_27) rfl ?_
      exact k
    obtain ⟨fs, hr, hrun, hended, hW, hsame⟩ := X0.leave (v := some (.long (j1 / j2))) (fun h => by rw [Bd.returns] at h; cases h)
    refine ⟨_, _, pre7 _ ?_, hrun, hended, _, _, rfl, ?_, ⟨_, rfl⟩, hW, hsame.mono (by decide) (by decide)⟩
    · show Steps p.tables e below (s₁.setTop (mkF m 29 #[.val (.long j1), .second, .val (.long j2), .second, .val (.long (j1 / j2)), .second] [(.long (j1 / j2))])) _
      jvm_step X0.here [X0.here.top, hx, (hb hby d4_29), X0.method', Bd.returns, narrow]
      first | (intro acts; rw [hr _ acts rfl rfl rfl]) | rw [hr _ _ rfl rfl rfl]
      exact Steps.refl _
    · show Q4 Z j1 j2 h0 n0 _ s₁.heap _
      rw [e0]
      exact ⟨congrArg (fun z => some (Value.long z)) (show (own_r4 j1 j2) = (j1 / j2) from (if_neg hc10_2)).symm, N0, rfl⟩
def Q3 (Z : State) (j1 : Int64) (h0 : Heap) (n0 : Nat) (v : Option Value) (h : Heap) (L : List Loc) : Prop := v = some (.long (-(own_r4 (-j1) (1000 : Int64)))) ∧ Fr n0 L ∧ h = h0
theorem ef_3 (m : MethodId) (x0 : Int64) : entryFrame m #[(.long x0)] 2 = mkF m 0 #[.val (.long x0), .second] [] := by first | (simp [entryFrame, mkF, argsToLocals, Value.category]; done) | rfl
set_option maxRecDepth 65536 in
set_option maxHeartbeats 40000000 in
theorem rm3 (l : Launch) (Z : State) (a0 : Array Value) (hw : ∀ d ∈ tables_1, d.before a0 Z = true) (ws : List Jvm.Cond) (j1 : Int64) (h0 : Heap) (n0 : Nat) (Z0 : n0 ≤ h0.size) :
    MetFree l (⟨"com/example/burst/burst/MemoryRule", "millisRoundedUp", "(J)J"⟩ : MethodName) (head1 (Jvm.Cond.code (⟨"com/example/burst/burst/MemoryRule", "millisRoundedUp", "(J)J"⟩ : MethodName) prog_8_method_3_code 2 (some .long) :: ws) ({ frames := 1, cells := 0, slots := 0, locals := 17 } : Room)) (fun a U => a = #[(.long j1)] ∧ Z.Warmed39 U.vm ∧ U.heap = h0) (fun _ _ _ _ _ => True) (fun _ U o U' => ∃ v L, o = .returned v ∧ Q3 Z j1 h0 n0 v U'.heap L ∧ FrameEnd U o U' L ({ frames := 1, cells := 0, slots := 0, locals := 17 } : Room).cells ({ frames := 1, cells := 0, slots := 0, locals := 17 } : Room).slots) := by
  refine MetFree.of_bodySF (plainFor_of_name pn_1) hisR ?_
  intro p e s m args below meth c s₁ Bd hml0 hP hK
  obtain ⟨rfl, hZ, hh⟩ := hP
  have hx := Bd.exec
  have hby := Bd.bytes
  have hml : c.maxLocals = 2 := hml0
  have hown : s.vm.findClass "com/example/burst/burst/MemoryRule" = some m.cls := findClass_of_methodNamed Bd.named
  have hnm := (name_of_methodNamed Bd.named Bd.method).1
  have X0 : Stand p l e ({ frames := 1, cells := 0, slots := 0, locals := 17 } : Room) s m #[(.long j1)] below meth c s₁ [] 0 0 := Stand.of_body Bd
  have e0 : s₁.heap = h0 := by rw [← hh, Bd.state]; rfl
  have N0 := Fr.nil n0
  have pre0 : ∀ t, Steps p.tables e below (s₁.setTop (mkF m 0 #[.val (.long j1), .second] [])) t → Steps p.tables e below (s₁.setTop (entryFrame m #[(.long j1)] 2)) t := fun t k => castTop (ef_3 m j1) k
  obtain ⟨_, _, ⟨T1, L1, k1, n1⟩, -, X1, ⟨Lc1, hQ1, l1, y1, z1⟩, st1⟩ := Jvm.LawKit.callS X0 hx (y := (⟨"java/lang/Math", "floorDiv", "(JJ)J"⟩ : MethodName)) hown (mvT hZ (hw _ (List.mem_of_getElem? (i := 16) rfl))) (mvT hZ (hw _ (List.mem_of_getElem? (i := 17) rfl))) (mvT hZ (hw _ (List.mem_of_getElem? (i := 18) rfl))) (mvT hZ (hw _ (List.mem_of_getElem? (i := 19) rfl))) (by decide) (backOf (W := 0) (rm4 l Z a0 hw [] (-j1) (1000 : Int64) h0 n0 (Nat.le_trans Z0 (Keep.refl h0 []).1) (by decide)) hZ (hw _ (List.mem_of_getElem? (i := 19) rfl)) (hw _ (List.mem_of_getElem? (i := 18) rfl)) (by decide) (by decide)) (g := (mkF m 5 #[.val (.long j1), .second] [(.long (1000 : Int64)), (.long (-j1))])) rfl (by rw [hml]; rfl) (argsL := [(.long (-j1)), (.long (1000 : Int64))]) (rest := []) (lenOf pd_1 rfl) rfl (by show 2 * 0 + _ ≤ _; exact Nat.le_of_eq rfl) (hb hby d3_5) (fun _ _ => ⟨rfl, e0, (by decide : 0 + 0 ≤ _), (by decide : 0 + 0 ≤ _)⟩)
  dsimp only [Pt.U, Pt.locs, Pt.cells, Pt.slots] at X1 l1 y1 z1 st1 hQ1
  subst l1 y1 z1
  obtain ⟨rfl, Nq1, e1⟩ := hQ1
  have N1 := Fr.app N0 Nq1
  have pre2 : ∀ t, Steps p.tables e below (T1.setTop (mkF m 9 #[.val (.long j1), .second] [(.long (-(own_r4 (-j1) (1000 : Int64))))])) t → Steps p.tables e below (s₁.setTop (entryFrame m #[(.long j1)] 2)) t := by
    intro t k
    refine pre0 _ ?_
    show Steps p.tables e below (s₁.setTop (mkF m 0 #[.val (.long j1), .second] [])) _
    refine XS.lloadN X0.here hx rfl (hb hby d3_0) rfl ?_
    show Steps p.tables e below (s₁.setTop (mkF m 1 #[.val (.long j1), .second] [(.long j1)])) _
    refine XS.lneg X0.here hx rfl (hb hby d3_1) rfl ?_
    show Steps p.tables e below (s₁.setTop (mkF m 2 #[.val (.long j1), .second] [(.long (-j1))])) _
    refine X0.ldc2Long hx hown (mvT hZ (hw _ (List.mem_of_getElem? (i := 15) rfl))) (g := (mkF m 2 #[.val (.long j1), .second] [(.long (-j1))])) rfl (hb hby d3_2) _ ?_
    show Steps p.tables e below (s₁.setTop (mkF m 5 #[.val (.long j1), .second] [(.long (1000 : Int64)), (.long (-j1))])) _
    refine st1 _ ?_
    show Steps p.tables e below (T1.setTop (mkF m 8 #[.val (.long j1), .second] [(.long (own_r4 (-j1) (1000 : Int64)))])) _
    refine XS.lneg X1.here hx rfl (hb hby d3_8) rfl ?_
    exact k
  obtain ⟨fs, hr, hrun, hended, hW, hsame⟩ := X1.leave (v := some (.long (-(own_r4 (-j1) (1000 : Int64))))) (fun h => by rw [Bd.returns] at h; cases h)
  refine ⟨_, _, pre2 _ ?_, hrun, hended, _, _, rfl, ?_, ⟨_, rfl⟩, hW, hsame.mono (by decide) (by decide)⟩
  · show Steps p.tables e below (T1.setTop (mkF m 9 #[.val (.long j1), .second] [(.long (-(own_r4 (-j1) (1000 : Int64))))])) _
    jvm_step X1.here [X1.here.top, hx, (hb hby d3_9), X1.method', Bd.returns, narrow]
    first | (intro acts; rw [hr _ acts rfl rfl rfl]) | rw [hr _ _ rfl rfl rfl]
    exact Steps.refl _
  · show Q3 Z j1 h0 n0 _ T1.heap _
    rw [e1]
    exact ⟨rfl, N1, rfl⟩
def Q7 (Z : State) (r0 : Addr) (h0 : Heap) (n0 : Nat) (v : Option Value) (h : Heap) (L : List Loc) : Prop := v = none ∧ Fr n0 L ∧ h = h0
theorem ef_7 (m : MethodId) (x0 : Addr) : entryFrame m #[(.ref x0)] 1 = mkF m 0 #[.val (.ref x0)] [] := by first | (simp [entryFrame, mkF, argsToLocals, Value.category]; done) | rfl
set_option maxRecDepth 65536 in
set_option maxHeartbeats 40000000 in
theorem rm7 (l : Launch) (Z : State) (a0 : Array Value) (hw : ∀ d ∈ tables_1, d.before a0 Z = true) (ws : List Jvm.Cond) (r0 : Addr) (h0 : Heap) (n0 : Nat) (Z0 : n0 ≤ h0.size) :
    MetFree l (⟨"java/lang/Record", "<init>", "()V"⟩ : MethodName) (head1 (Jvm.Cond.code (⟨"java/lang/Record", "<init>", "()V"⟩ : MethodName) jdk_30_method_1_code 1 none :: ws) ({ frames := 1, cells := 0, slots := 0, locals := 12 } : Room)) (fun a U => a = #[(.ref r0)] ∧ Z.Warmed39 U.vm ∧ U.heap = h0) (fun _ _ _ _ _ => True) (fun _ U o U' => ∃ v L, o = .returned v ∧ Q7 Z r0 h0 n0 v U'.heap L ∧ FrameEnd U o U' L ({ frames := 1, cells := 0, slots := 0, locals := 12 } : Room).cells ({ frames := 1, cells := 0, slots := 0, locals := 12 } : Room).slots) := by
  refine MetFree.of_bodySF (plainFor_of_name pn_2) hisR ?_
  intro p e s m args below meth c s₁ Bd hml0 hP hK
  obtain ⟨rfl, hZ, hh⟩ := hP
  have hx := Bd.exec
  have hby := Bd.bytes
  have hml : c.maxLocals = 1 := hml0
  have hown : s.vm.findClass "java/lang/Record" = some m.cls := findClass_of_methodNamed Bd.named
  have hnm := (name_of_methodNamed Bd.named Bd.method).1
  have X0 : Stand p l e ({ frames := 1, cells := 0, slots := 0, locals := 12 } : Room) s m #[(.ref r0)] below meth c s₁ [] 0 0 := Stand.of_body Bd
  have e0 : s₁.heap = h0 := by rw [← hh, Bd.state]; rfl
  have N0 := Fr.nil n0
  have pre0 : ∀ t, Steps p.tables e below (s₁.setTop (mkF m 0 #[.val (.ref r0)] [])) t → Steps p.tables e below (s₁.setTop (entryFrame m #[(.ref r0)] 1)) t := fun t k => castTop (ef_7 m r0) k
  obtain ⟨T1, X1, e1, st1⟩ := initO X0 hx hZ hown (hw _ (List.mem_of_getElem? (i := 34) rfl)) (hw _ (List.mem_of_getElem? (i := 35) rfl)) (hw _ (List.mem_of_getElem? (i := 36) rfl)) e0 (g := (mkF m 1 #[.val (.ref r0)] [(.ref r0)])) rfl (by rw [hml]; rfl) rfl (hb hby d7_1) (by decide) (W := 0) (by show 2 * 0 + _ ≤ _; exact Nat.le_of_eq rfl) (by decide)
  have pre2 : ∀ t, Steps p.tables e below (T1.setTop (mkF m 4 #[.val (.ref r0)] [])) t → Steps p.tables e below (s₁.setTop (entryFrame m #[(.ref r0)] 1)) t := by
    intro t k
    refine pre0 _ ?_
    show Steps p.tables e below (s₁.setTop (mkF m 0 #[.val (.ref r0)] [])) _
    refine XS.aloadN X0.here hx rfl (hb hby d7_0) rfl rfl ?_
    show Steps p.tables e below (s₁.setTop (mkF m 1 #[.val (.ref r0)] [(.ref r0)])) _
    refine st1 _ ?_
    exact k
  obtain ⟨fs, hr, hrun, hended, hW, hsame⟩ := X1.leave (v := none) (fun _ => rfl)
  refine ⟨_, _, pre2 _ ?_, hrun, hended, _, _, rfl, ?_, ⟨_, rfl⟩, hW, hsame.mono (by decide) (by decide)⟩
  · show Steps p.tables e below (T1.setTop (mkF m 4 #[.val (.ref r0)] [])) _
    exact X1.returnOut hx Bd.returns (hb hby d7_4) hr
  · show Q7 Z r0 h0 n0 _ T1.heap _
    rw [e1]
    exact ⟨rfl, N0, rfl⟩
def Q6 (Z : State) (r0 : Addr) (i1 : Int32) (j2 : Int64) (j3 : Int64) (j4 : Int64) (j5 : Int64) (i6 : Int32) (u_allowed_r0 : Value) (u_limit_r0 : Value) (u_remaining_r0 : Value) (u_retryAfterMillis_r0 : Value) (u_resetAfterMillis_r0 : Value) (u_degraded_r0 : Value) (h0 : Heap) (n0 : Nat) (v : Option Value) (h : Heap) (L : List Loc) : Prop := v = none ∧ Fr n0 L ∧ Keep h0 h [r0] ∧ Exa Z h r0 "com/example/burst/burst/Decision" ∧ Fld Z h r0 "com/example/burst/burst/Decision" "allowed" "Z" (.int (nar .boolean i1)) ∧ Fld Z h r0 "com/example/burst/burst/Decision" "limit" "J" (.long j2) ∧ Fld Z h r0 "com/example/burst/burst/Decision" "remaining" "J" (.long j3) ∧ Fld Z h r0 "com/example/burst/burst/Decision" "retryAfterMillis" "J" (.long j4) ∧ Fld Z h r0 "com/example/burst/burst/Decision" "resetAfterMillis" "J" (.long j5) ∧ Fld Z h r0 "com/example/burst/burst/Decision" "degraded" "Z" (.int (nar .boolean i6))
theorem ef_6 (m : MethodId) (x0 : Addr) (x1 : Int32) (x2 : Int64) (x3 : Int64) (x4 : Int64) (x5 : Int64) (x6 : Int32) : entryFrame m #[(.ref x0), (.int x1), (.long x2), (.long x3), (.long x4), (.long x5), (.int x6)] 11 = mkF m 0 #[.val (.ref x0), .val (.int x1), .val (.long x2), .second, .val (.long x3), .second, .val (.long x4), .second, .val (.long x5), .second, .val (.int x6)] [] := by first | (simp [entryFrame, mkF, argsToLocals, Value.category]; done) | rfl
set_option maxRecDepth 65536 in
set_option maxHeartbeats 40000000 in
theorem rm6 (l : Launch) (Z : State) (a0 : Array Value) (hw : ∀ d ∈ tables_1, d.before a0 Z = true) (ws : List Jvm.Cond) (r0 : Addr) (i1 : Int32) (j2 : Int64) (j3 : Int64) (j4 : Int64) (j5 : Int64) (i6 : Int32) (u_allowed_r0 : Value) (u_limit_r0 : Value) (u_remaining_r0 : Value) (u_retryAfterMillis_r0 : Value) (u_resetAfterMillis_r0 : Value) (u_degraded_r0 : Value) (h0 : Heap) (n0 : Nat) (Z0 : n0 ≤ h0.size) (hp8_0 : ¬ (j3 < (0 : Int64))) (hp15_1 : ¬ (j2 < j3)) (hp40_2 : ¬ (j4 < (-1 : Int64))) (hp68 : (¬ (i1 = (0 : Int32)) → j4 = (-1 : Int64))) (hp90_4 : ¬ (j5 < (0 : Int64))) (E_r0 : Exa Z h0 r0 "com/example/burst/burst/Decision") (F_allowed_r0 : Fld Z h0 r0 "com/example/burst/burst/Decision" "allowed" "Z" u_allowed_r0) (g_r0 : n0 ≤ r0) (F_limit_r0 : Fld Z h0 r0 "com/example/burst/burst/Decision" "limit" "J" u_limit_r0) (F_remaining_r0 : Fld Z h0 r0 "com/example/burst/burst/Decision" "remaining" "J" u_remaining_r0) (F_retryAfterMillis_r0 : Fld Z h0 r0 "com/example/burst/burst/Decision" "retryAfterMillis" "J" u_retryAfterMillis_r0) (F_resetAfterMillis_r0 : Fld Z h0 r0 "com/example/burst/burst/Decision" "resetAfterMillis" "J" u_resetAfterMillis_r0) (F_degraded_r0 : Fld Z h0 r0 "com/example/burst/burst/Decision" "degraded" "Z" u_degraded_r0) :
    MetFree l (⟨"com/example/burst/burst/Decision", "<init>", "(ZJJJJZ)V"⟩ : MethodName) (head1 (Jvm.Cond.code (⟨"com/example/burst/burst/Decision", "<init>", "(ZJJJJZ)V"⟩ : MethodName) prog_3_method_1_code 11 none :: ws) ({ frames := 2, cells := 0, slots := 0, locals := 24 } : Room)) (fun a U => a = #[(.ref r0), (.int i1), (.long j2), (.long j3), (.long j4), (.long j5), (.int i6)] ∧ Z.Warmed39 U.vm ∧ U.heap = h0) (fun _ _ _ _ _ => True) (fun _ U o U' => ∃ v L, o = .returned v ∧ Q6 Z r0 i1 j2 j3 j4 j5 i6 u_allowed_r0 u_limit_r0 u_remaining_r0 u_retryAfterMillis_r0 u_resetAfterMillis_r0 u_degraded_r0 h0 n0 v U'.heap L ∧ FrameEnd U o U' L ({ frames := 2, cells := 0, slots := 0, locals := 24 } : Room).cells ({ frames := 2, cells := 0, slots := 0, locals := 24 } : Room).slots) := by
  refine MetFree.of_bodySF (plainFor_of_name pn_3) hisR ?_
  intro p e s m args below meth c s₁ Bd hml0 hP hK
  obtain ⟨rfl, hZ, hh⟩ := hP
  have hx := Bd.exec
  have hby := Bd.bytes
  have hml : c.maxLocals = 11 := hml0
  have hown : s.vm.findClass "com/example/burst/burst/Decision" = some m.cls := findClass_of_methodNamed Bd.named
  have hnm := (name_of_methodNamed Bd.named Bd.method).1
  have X0 : Stand p l e ({ frames := 2, cells := 0, slots := 0, locals := 24 } : Room) s m #[(.ref r0), (.int i1), (.long j2), (.long j3), (.long j4), (.long j5), (.int i6)] below meth c s₁ [] 0 0 := Stand.of_body Bd
  have e0 : s₁.heap = h0 := by rw [← hh, Bd.state]; rfl
  have N0 := Fr.nil n0
  have pre0 : ∀ t, Steps p.tables e below (s₁.setTop (mkF m 0 #[.val (.ref r0), .val (.int i1), .val (.long j2), .second, .val (.long j3), .second, .val (.long j4), .second, .val (.long j5), .second, .val (.int i6)] [])) t → Steps p.tables e below (s₁.setTop (entryFrame m #[(.ref r0), (.int i1), (.long j2), (.long j3), (.long j4), (.long j5), (.int i6)] 11)) t := fun t k => castTop (ef_6 m r0 i1 j2 j3 j4 j5 i6) k
  obtain ⟨_, _, ⟨T1, L1, k1, n1⟩, -, X1, ⟨Lc1, hQ1, l1, y1, z1⟩, st1⟩ := X0.specialBack hx (y := (⟨"java/lang/Record", "<init>", "()V"⟩ : MethodName)) rfl hown (mvT hZ (hw _ (List.mem_of_getElem? (i := 29) rfl))) (mvT hZ (hw _ (List.mem_of_getElem? (i := 30) rfl))) (mvT hZ (hw _ (List.mem_of_getElem? (i := 33) rfl))) (by decide) (backOf (W := 0) (rm7 l Z a0 hw [] r0 h0 n0 (Nat.le_trans Z0 (Keep.refl h0 [r0]).1) ) hZ (hw _ (List.mem_of_getElem? (i := 33) rfl)) (hw _ (List.mem_of_getElem? (i := 32) rfl)) (by decide) (by decide)) (g := (mkF m 1 #[.val (.ref r0), .val (.int i1), .val (.long j2), .second, .val (.long j3), .second, .val (.long j4), .second, .val (.long j5), .second, .val (.int i6)] [(.ref r0)])) rfl (by rw [hml]; rfl) (Steps.refl _) (a := r0) (argsL := []) (rest := []) (lenOf pd_2 rfl) rfl (by show 2 * 0 + _ ≤ _; exact Nat.le_of_eq rfl) (hb hby d6_1) (fun _ _ => ⟨rfl, e0, (by decide : 0 + 0 ≤ _), (by decide : 0 + 0 ≤ _)⟩)
  dsimp only [Pt.U, Pt.locs, Pt.cells, Pt.slots] at X1 l1 y1 z1 st1 hQ1
  subst l1 y1 z1
  obtain ⟨rfl, Nq1, e1⟩ := hQ1
  have N1 := Fr.app N0 Nq1
  have pre2 : ∀ t, Steps p.tables e below (T1.setTop (mkF m 59 #[.val (.ref r0), .val (.int i1), .val (.long j2), .second, .val (.long j3), .second, .val (.long j4), .second, .val (.long j5), .second, .val (.int i6)] [(.int i1)])) t → Steps p.tables e below (s₁.setTop (entryFrame m #[(.ref r0), (.int i1), (.long j2), (.long j3), (.long j4), (.long j5), (.int i6)] 11)) t := by
    intro t k
    refine pre0 _ ?_
    show Steps p.tables e below (s₁.setTop (mkF m 0 #[.val (.ref r0), .val (.int i1), .val (.long j2), .second, .val (.long j3), .second, .val (.long j4), .second, .val (.long j5), .second, .val (.int i6)] [])) _
    refine XS.aloadN X0.here hx rfl (hb hby d6_0) rfl rfl ?_
    show Steps p.tables e below (s₁.setTop (mkF m 1 #[.val (.ref r0), .val (.int i1), .val (.long j2), .second, .val (.long j3), .second, .val (.long j4), .second, .val (.long j5), .second, .val (.int i6)] [(.ref r0)])) _
    refine st1.trans ?_
    show Steps p.tables e below (T1.setTop (mkF m 4 #[.val (.ref r0), .val (.int i1), .val (.long j2), .second, .val (.long j3), .second, .val (.long j4), .second, .val (.long j5), .second, .val (.int i6)] [])) _
    refine XS.lload X1.here hx rfl (hb hby d6_4) rfl ?_
    show Steps p.tables e below (T1.setTop (mkF m 6 #[.val (.ref r0), .val (.int i1), .val (.long j2), .second, .val (.long j3), .second, .val (.long j4), .second, .val (.long j5), .second, .val (.int i6)] [(.long j3)])) _
    refine XS.lconst X1.here hx rfl (hb hby d6_6) ?_
    show Steps p.tables e below (T1.setTop (mkF m 7 #[.val (.ref r0), .val (.int i1), .val (.long j2), .second, .val (.long j3), .second, .val (.long j4), .second, .val (.long j5), .second, .val (.int i6)] [(.long (0 : Int64)), (.long j3)])) _
    refine XS.lcmp X1.here hx rfl (hb hby d6_7) rfl ?_
    show Steps p.tables e below (T1.setTop (mkF m 8 #[.val (.ref r0), .val (.int i1), .val (.long j2), .second, .val (.long j3), .second, .val (.long j4), .second, .val (.long j5), .second, .val (.int i6)] [(.int (lcmpW j3 (0 : Int64)))])) _
    refine XS.ifNo X1.here hx rfl (hb hby d6_8) rfl ((if0 _ _).trans (flt (mt (lw_lt j3 (0 : Int64)).mp hp8_0)).1) ?_
    show Steps p.tables e below (T1.setTop (mkF m 11 #[.val (.ref r0), .val (.int i1), .val (.long j2), .second, .val (.long j3), .second, .val (.long j4), .second, .val (.long j5), .second, .val (.int i6)] [])) _
    refine XS.lload X1.here hx rfl (hb hby d6_11) rfl ?_
    show Steps p.tables e below (T1.setTop (mkF m 13 #[.val (.ref r0), .val (.int i1), .val (.long j2), .second, .val (.long j3), .second, .val (.long j4), .second, .val (.long j5), .second, .val (.int i6)] [(.long j3)])) _
    refine XS.lloadN X1.here hx rfl (hb hby d6_13) rfl ?_
    show Steps p.tables e below (T1.setTop (mkF m 14 #[.val (.ref r0), .val (.int i1), .val (.long j2), .second, .val (.long j3), .second, .val (.long j4), .second, .val (.long j5), .second, .val (.int i6)] [(.long j2), (.long j3)])) _
    refine XS.lcmp X1.here hx rfl (hb hby d6_14) rfl ?_
    show Steps p.tables e below (T1.setTop (mkF m 15 #[.val (.ref r0), .val (.int i1), .val (.long j2), .second, .val (.long j3), .second, .val (.long j4), .second, .val (.long j5), .second, .val (.int i6)] [(.int (lcmpW j3 j2))])) _
    refine XS.ifYes X1.here hx rfl (pc0 := 15) (pc' := 34) rfl (hb hby d6_15) rfl ((if0 _ _).trans (flt (mt (lw_gt j3 j2).mp hp15_1)).2.2.2) (by decide) (by decide) ?_
    show Steps p.tables e below (T1.setTop (mkF m 34 #[.val (.ref r0), .val (.int i1), .val (.long j2), .second, .val (.long j3), .second, .val (.long j4), .second, .val (.long j5), .second, .val (.int i6)] [])) _
    refine XS.lload X1.here hx rfl (hb hby d6_34) rfl ?_
    show Steps p.tables e below (T1.setTop (mkF m 36 #[.val (.ref r0), .val (.int i1), .val (.long j2), .second, .val (.long j3), .second, .val (.long j4), .second, .val (.long j5), .second, .val (.int i6)] [(.long j4)])) _
    refine X1.ldc2Long hx hown (mvT hZ (hw _ (List.mem_of_getElem? (i := 37) rfl))) (g := (mkF m 36 #[.val (.ref r0), .val (.int i1), .val (.long j2), .second, .val (.long j3), .second, .val (.long j4), .second, .val (.long j5), .second, .val (.int i6)] [(.long j4)])) rfl (hb hby d6_36) _ ?_
    show Steps p.tables e below (T1.setTop (mkF m 39 #[.val (.ref r0), .val (.int i1), .val (.long j2), .second, .val (.long j3), .second, .val (.long j4), .second, .val (.long j5), .second, .val (.int i6)] [(.long (-1 : Int64)), (.long j4)])) _
    refine XS.lcmp X1.here hx rfl (hb hby d6_39) rfl ?_
    show Steps p.tables e below (T1.setTop (mkF m 40 #[.val (.ref r0), .val (.int i1), .val (.long j2), .second, .val (.long j3), .second, .val (.long j4), .second, .val (.long j5), .second, .val (.int i6)] [(.int (lcmpW j4 (-1 : Int64)))])) _
    refine XS.ifYes X1.here hx rfl (pc0 := 40) (pc' := 58) rfl (hb hby d6_40) rfl ((if0 _ _).trans (flt (mt (lw_lt j4 (-1 : Int64)).mp hp40_2)).2.1) (by decide) (by decide) ?_
    show Steps p.tables e below (T1.setTop (mkF m 58 #[.val (.ref r0), .val (.int i1), .val (.long j2), .second, .val (.long j3), .second, .val (.long j4), .second, .val (.long j5), .second, .val (.int i6)] [])) _
    refine XS.iloadN X1.here hx rfl (hb hby d6_58) rfl ?_
    exact k
  have pre7 : ∀ t, Steps p.tables e below (T1.setTop (mkF m 86 #[.val (.ref r0), .val (.int i1), .val (.long j2), .second, .val (.long j3), .second, .val (.long j4), .second, .val (.long j5), .second, .val (.int i6)] [])) t → Steps p.tables e below (s₁.setTop (entryFrame m #[(.ref r0), (.int i1), (.long j2), (.long j3), (.long j4), (.long j5), (.int i6)] 11)) t := by
    by_cases hc59_3 : i1 = (0 : Int32)
    · have pre4 : ∀ t, Steps p.tables e below (T1.setTop (mkF m 86 #[.val (.ref r0), .val (.int i1), .val (.long j2), .second, .val (.long j3), .second, .val (.long j4), .second, .val (.long j5), .second, .val (.int i6)] [])) t → Steps p.tables e below (s₁.setTop (entryFrame m #[(.ref r0), (.int i1), (.long j2), (.long j3), (.long j4), (.long j5), (.int i6)] 11)) t := by
        intro t k
        refine pre2 _ ?_
        show Steps p.tables e below (T1.setTop (mkF m 59 #[.val (.ref r0), .val (.int i1), .val (.long j2), .second, .val (.long j3), .second, .val (.long j4), .second, .val (.long j5), .second, .val (.int i6)] [(.int i1)])) _
        refine XS.ifYes X1.here hx rfl (pc0 := 59) (pc' := 86) rfl (hb hby d6_59) rfl ((if0 _ _).trans (teq hc59_3).1) (by decide) (by decide) ?_
        exact k
      exact pre4
    · have hr5 : j4 = (-1 : Int64) := hp68 hc59_3
      have pre6 : ∀ t, Steps p.tables e below (T1.setTop (mkF m 86 #[.val (.ref r0), .val (.int i1), .val (.long j2), .second, .val (.long j3), .second, .val (.long j4), .second, .val (.long j5), .second, .val (.int i6)] [])) t → Steps p.tables e below (s₁.setTop (entryFrame m #[(.ref r0), (.int i1), (.long j2), (.long j3), (.long j4), (.long j5), (.int i6)] 11)) t := by
        intro t k
        refine pre2 _ ?_
        show Steps p.tables e below (T1.setTop (mkF m 59 #[.val (.ref r0), .val (.int i1), .val (.long j2), .second, .val (.long j3), .second, .val (.long j4), .second, .val (.long j5), .second, .val (.int i6)] [(.int i1)])) _
        refine XS.ifNo X1.here hx rfl (hb hby d6_59) rfl ((if0 _ _).trans (feq hc59_3).1) ?_
        show Steps p.tables e below (T1.setTop (mkF m 62 #[.val (.ref r0), .val (.int i1), .val (.long j2), .second, .val (.long j3), .second, .val (.long j4), .second, .val (.long j5), .second, .val (.int i6)] [])) _
        refine XS.lload X1.here hx rfl (hb hby d6_62) rfl ?_
        show Steps p.tables e below (T1.setTop (mkF m 64 #[.val (.ref r0), .val (.int i1), .val (.long j2), .second, .val (.long j3), .second, .val (.long j4), .second, .val (.long j5), .second, .val (.int i6)] [(.long j4)])) _
        refine X1.ldc2Long hx hown (mvT hZ (hw _ (List.mem_of_getElem? (i := 37) rfl))) (g := (mkF m 64 #[.val (.ref r0), .val (.int i1), .val (.long j2), .second, .val (.long j3), .second, .val (.long j4), .second, .val (.long j5), .second, .val (.int i6)] [(.long j4)])) rfl (hb hby d6_64) _ ?_
        show Steps p.tables e below (T1.setTop (mkF m 67 #[.val (.ref r0), .val (.int i1), .val (.long j2), .second, .val (.long j3), .second, .val (.long j4), .second, .val (.long j5), .second, .val (.int i6)] [(.long (-1 : Int64)), (.long j4)])) _
        refine XS.lcmp X1.here hx rfl (hb hby d6_67) rfl ?_
        show Steps p.tables e below (T1.setTop (mkF m 68 #[.val (.ref r0), .val (.int i1), .val (.long j2), .second, .val (.long j3), .second, .val (.long j4), .second, .val (.long j5), .second, .val (.int i6)] [(.int (lcmpW j4 (-1 : Int64)))])) _
        refine XS.ifYes X1.here hx rfl (pc0 := 68) (pc' := 86) rfl (hb hby d6_68) rfl ((if0 _ _).trans (teq ((lw_eq j4 (-1 : Int64)).mpr hr5)).1) (by decide) (by decide) ?_
        exact k
      exact pre6
  obtain ⟨T8, h8, X8, e8, W8, st8⟩ := putFN X1 hx hZ hown (hw _ (List.mem_of_getElem? (i := 38) rfl)) Via.refl e1 F_allowed_r0 E_r0 (Or.inr ⟨(hw _ (List.mem_of_getElem? (i := 39) rfl)), rfl, hnm⟩) (hw _ (List.mem_of_getElem? (i := 21) rfl)) (ty := .boolean) (v' := (.int (nar .boolean i1))) (by decide) rfl (fits_nar_bool _) (g := (mkF m 110 #[.val (.ref r0), .val (.int i1), .val (.long j2), .second, .val (.long j3), .second, .val (.long j4), .second, .val (.long j5), .second, .val (.int i6)] [(.int i1), (.ref r0)])) rfl rfl (hb hby d6_110)
  have N8 := Fr.snoc X8 N1 g_r0
  have K9 : Keep h0 h8 [r0] := (Keep.refl h0 [r0]).wr W8 (Or.inl (List.mem_of_getElem? (i := 0) rfl))
  have F8 := F_allowed_r0.same W8
  have f10 := (E_r0.wr W8)
  have f11 := (F_limit_r0.other W8 (Or.inr (slot_ne (Or.inr (hw _ (List.mem_of_getElem? (i := 41) rfl))) (Or.inr (hw _ (List.mem_of_getElem? (i := 39) rfl))) (by decide) (t := .long) (t' := .boolean) (by decide) (by decide))))
  obtain ⟨T12, h12, X12, e12, W12, st12⟩ := putF X8 hx hZ hown (host := "") (Or.inl (hw _ (List.mem_of_getElem? (i := 40) rfl))) Via.refl e8 f11 f10 (Or.inr ⟨(hw _ (List.mem_of_getElem? (i := 41) rfl)), rfl, hnm⟩) (hw _ (List.mem_of_getElem? (i := 21) rfl)) (ty := .long) (by decide) rfl rfl (g := (mkF m 115 #[.val (.ref r0), .val (.int i1), .val (.long j2), .second, .val (.long j3), .second, .val (.long j4), .second, .val (.long j5), .second, .val (.int i6)] [(.long j2), (.ref r0)])) rfl rfl (hb hby d6_115)
  have N12 := Fr.snoc X12 N8 g_r0
  have K13 : Keep h0 h12 [r0] := K9.wr W12 (Or.inl (List.mem_of_getElem? (i := 0) rfl))
  have F12 := f11.same W12
  have f14 := (f10.wr W12)
  have f15 := ((F_remaining_r0.other W8 (Or.inr (slot_ne (Or.inr (hw _ (List.mem_of_getElem? (i := 43) rfl))) (Or.inr (hw _ (List.mem_of_getElem? (i := 39) rfl))) (by decide) (t := .long) (t' := .boolean) (by decide) (by decide)))).other W12 (Or.inr (slot_ne (Or.inr (hw _ (List.mem_of_getElem? (i := 43) rfl))) (Or.inr (hw _ (List.mem_of_getElem? (i := 41) rfl))) (by decide) (t := .long) (t' := .long) (by decide) (by decide))))
  obtain ⟨T16, h16, X16, e16, W16, st16⟩ := putF X12 hx hZ hown (host := "") (Or.inl (hw _ (List.mem_of_getElem? (i := 42) rfl))) Via.refl e12 f15 f14 (Or.inr ⟨(hw _ (List.mem_of_getElem? (i := 43) rfl)), rfl, hnm⟩) (hw _ (List.mem_of_getElem? (i := 21) rfl)) (ty := .long) (by decide) rfl rfl (g := (mkF m 121 #[.val (.ref r0), .val (.int i1), .val (.long j2), .second, .val (.long j3), .second, .val (.long j4), .second, .val (.long j5), .second, .val (.int i6)] [(.long j3), (.ref r0)])) rfl rfl (hb hby d6_121)
  have N16 := Fr.snoc X16 N12 g_r0
  have K17 : Keep h0 h16 [r0] := K13.wr W16 (Or.inl (List.mem_of_getElem? (i := 0) rfl))
  have F16 := f15.same W16
  have f18 := (f14.wr W16)
  have f19 := (((F_retryAfterMillis_r0.other W8 (Or.inr (slot_ne (Or.inr (hw _ (List.mem_of_getElem? (i := 45) rfl))) (Or.inr (hw _ (List.mem_of_getElem? (i := 39) rfl))) (by decide) (t := .long) (t' := .boolean) (by decide) (by decide)))).other W12 (Or.inr (slot_ne (Or.inr (hw _ (List.mem_of_getElem? (i := 45) rfl))) (Or.inr (hw _ (List.mem_of_getElem? (i := 41) rfl))) (by decide) (t := .long) (t' := .long) (by decide) (by decide)))).other W16 (Or.inr (slot_ne (Or.inr (hw _ (List.mem_of_getElem? (i := 45) rfl))) (Or.inr (hw _ (List.mem_of_getElem? (i := 43) rfl))) (by decide) (t := .long) (t' := .long) (by decide) (by decide))))
  obtain ⟨T20, h20, X20, e20, W20, st20⟩ := putF X16 hx hZ hown (host := "") (Or.inl (hw _ (List.mem_of_getElem? (i := 44) rfl))) Via.refl e16 f19 f18 (Or.inr ⟨(hw _ (List.mem_of_getElem? (i := 45) rfl)), rfl, hnm⟩) (hw _ (List.mem_of_getElem? (i := 21) rfl)) (ty := .long) (by decide) rfl rfl (g := (mkF m 127 #[.val (.ref r0), .val (.int i1), .val (.long j2), .second, .val (.long j3), .second, .val (.long j4), .second, .val (.long j5), .second, .val (.int i6)] [(.long j4), (.ref r0)])) rfl rfl (hb hby d6_127)
  have N20 := Fr.snoc X20 N16 g_r0
  have K21 : Keep h0 h20 [r0] := K17.wr W20 (Or.inl (List.mem_of_getElem? (i := 0) rfl))
  have F20 := f19.same W20
  have f22 := (f18.wr W20)
  have f23 := ((((F_resetAfterMillis_r0.other W8 (Or.inr (slot_ne (Or.inr (hw _ (List.mem_of_getElem? (i := 47) rfl))) (Or.inr (hw _ (List.mem_of_getElem? (i := 39) rfl))) (by decide) (t := .long) (t' := .boolean) (by decide) (by decide)))).other W12 (Or.inr (slot_ne (Or.inr (hw _ (List.mem_of_getElem? (i := 47) rfl))) (Or.inr (hw _ (List.mem_of_getElem? (i := 41) rfl))) (by decide) (t := .long) (t' := .long) (by decide) (by decide)))).other W16 (Or.inr (slot_ne (Or.inr (hw _ (List.mem_of_getElem? (i := 47) rfl))) (Or.inr (hw _ (List.mem_of_getElem? (i := 43) rfl))) (by decide) (t := .long) (t' := .long) (by decide) (by decide)))).other W20 (Or.inr (slot_ne (Or.inr (hw _ (List.mem_of_getElem? (i := 47) rfl))) (Or.inr (hw _ (List.mem_of_getElem? (i := 45) rfl))) (by decide) (t := .long) (t' := .long) (by decide) (by decide))))
  obtain ⟨T24, h24, X24, e24, W24, st24⟩ := putF X20 hx hZ hown (host := "") (Or.inl (hw _ (List.mem_of_getElem? (i := 46) rfl))) Via.refl e20 f23 f22 (Or.inr ⟨(hw _ (List.mem_of_getElem? (i := 47) rfl)), rfl, hnm⟩) (hw _ (List.mem_of_getElem? (i := 21) rfl)) (ty := .long) (by decide) rfl rfl (g := (mkF m 133 #[.val (.ref r0), .val (.int i1), .val (.long j2), .second, .val (.long j3), .second, .val (.long j4), .second, .val (.long j5), .second, .val (.int i6)] [(.long j5), (.ref r0)])) rfl rfl (hb hby d6_133)
  have N24 := Fr.snoc X24 N20 g_r0
  have K25 : Keep h0 h24 [r0] := K21.wr W24 (Or.inl (List.mem_of_getElem? (i := 0) rfl))
  have F24 := f23.same W24
  have f26 := (f22.wr W24)
  have f27 := (((((F_degraded_r0.other W8 (Or.inr (slot_ne (Or.inr (hw _ (List.mem_of_getElem? (i := 49) rfl))) (Or.inr (hw _ (List.mem_of_getElem? (i := 39) rfl))) (by decide) (t := .boolean) (t' := .boolean) (by decide) (by decide)))).other W12 (Or.inr (slot_ne (Or.inr (hw _ (List.mem_of_getElem? (i := 49) rfl))) (Or.inr (hw _ (List.mem_of_getElem? (i := 41) rfl))) (by decide) (t := .boolean) (t' := .long) (by decide) (by decide)))).other W16 (Or.inr (slot_ne (Or.inr (hw _ (List.mem_of_getElem? (i := 49) rfl))) (Or.inr (hw _ (List.mem_of_getElem? (i := 43) rfl))) (by decide) (t := .boolean) (t' := .long) (by decide) (by decide)))).other W20 (Or.inr (slot_ne (Or.inr (hw _ (List.mem_of_getElem? (i := 49) rfl))) (Or.inr (hw _ (List.mem_of_getElem? (i := 45) rfl))) (by decide) (t := .boolean) (t' := .long) (by decide) (by decide)))).other W24 (Or.inr (slot_ne (Or.inr (hw _ (List.mem_of_getElem? (i := 49) rfl))) (Or.inr (hw _ (List.mem_of_getElem? (i := 47) rfl))) (by decide) (t := .boolean) (t' := .long) (by decide) (by decide))))
  obtain ⟨T28, h28, X28, e28, W28, st28⟩ := putFN X24 hx hZ hown (hw _ (List.mem_of_getElem? (i := 48) rfl)) Via.refl e24 f27 f26 (Or.inr ⟨(hw _ (List.mem_of_getElem? (i := 49) rfl)), rfl, hnm⟩) (hw _ (List.mem_of_getElem? (i := 21) rfl)) (ty := .boolean) (v' := (.int (nar .boolean i6))) (by decide) rfl (fits_nar_bool _) (g := (mkF m 139 #[.val (.ref r0), .val (.int i1), .val (.long j2), .second, .val (.long j3), .second, .val (.long j4), .second, .val (.long j5), .second, .val (.int i6)] [(.int i6), (.ref r0)])) rfl rfl (hb hby d6_139)
  have N28 := Fr.snoc X28 N24 g_r0
  have K29 : Keep h0 h28 [r0] := K25.wr W28 (Or.inl (List.mem_of_getElem? (i := 0) rfl))
  have F28 := f27.same W28
  have pre30 : ∀ t, Steps p.tables e below (T28.setTop (mkF m 142 #[.val (.ref r0), .val (.int i1), .val (.long j2), .second, .val (.long j3), .second, .val (.long j4), .second, .val (.long j5), .second, .val (.int i6)] [])) t → Steps p.tables e below (s₁.setTop (entryFrame m #[(.ref r0), (.int i1), (.long j2), (.long j3), (.long j4), (.long j5), (.int i6)] 11)) t := by
    intro t k
    refine pre7 _ ?_
    show Steps p.tables e below (T1.setTop (mkF m 86 #[.val (.ref r0), .val (.int i1), .val (.long j2), .second, .val (.long j3), .second, .val (.long j4), .second, .val (.long j5), .second, .val (.int i6)] [])) _
    refine XS.lload X1.here hx rfl (hb hby d6_86) rfl ?_
    show Steps p.tables e below (T1.setTop (mkF m 88 #[.val (.ref r0), .val (.int i1), .val (.long j2), .second, .val (.long j3), .second, .val (.long j4), .second, .val (.long j5), .second, .val (.int i6)] [(.long j5)])) _
    refine XS.lconst X1.here hx rfl (hb hby d6_88) ?_
    show Steps p.tables e below (T1.setTop (mkF m 89 #[.val (.ref r0), .val (.int i1), .val (.long j2), .second, .val (.long j3), .second, .val (.long j4), .second, .val (.long j5), .second, .val (.int i6)] [(.long (0 : Int64)), (.long j5)])) _
    refine XS.lcmp X1.here hx rfl (hb hby d6_89) rfl ?_
    show Steps p.tables e below (T1.setTop (mkF m 90 #[.val (.ref r0), .val (.int i1), .val (.long j2), .second, .val (.long j3), .second, .val (.long j4), .second, .val (.long j5), .second, .val (.int i6)] [(.int (lcmpW j5 (0 : Int64)))])) _
    refine XS.ifYes X1.here hx rfl (pc0 := 90) (pc' := 108) rfl (hb hby d6_90) rfl ((if0 _ _).trans (flt (mt (lw_lt j5 (0 : Int64)).mp hp90_4)).2.1) (by decide) (by decide) ?_
    show Steps p.tables e below (T1.setTop (mkF m 108 #[.val (.ref r0), .val (.int i1), .val (.long j2), .second, .val (.long j3), .second, .val (.long j4), .second, .val (.long j5), .second, .val (.int i6)] [])) _
    refine XS.aloadN X1.here hx rfl (hb hby d6_108) rfl rfl ?_
    show Steps p.tables e below (T1.setTop (mkF m 109 #[.val (.ref r0), .val (.int i1), .val (.long j2), .second, .val (.long j3), .second, .val (.long j4), .second, .val (.long j5), .second, .val (.int i6)] [(.ref r0)])) _
    refine XS.iloadN X1.here hx rfl (hb hby d6_109) rfl ?_
    show Steps p.tables e below (T1.setTop (mkF m 110 #[.val (.ref r0), .val (.int i1), .val (.long j2), .second, .val (.long j3), .second, .val (.long j4), .second, .val (.long j5), .second, .val (.int i6)] [(.int i1), (.ref r0)])) _
    refine st8 _ ?_
    show Steps p.tables e below (T8.setTop (mkF m 113 #[.val (.ref r0), .val (.int i1), .val (.long j2), .second, .val (.long j3), .second, .val (.long j4), .second, .val (.long j5), .second, .val (.int i6)] [])) _
    refine XS.aloadN X8.here hx rfl (hb hby d6_113) rfl rfl ?_
    show Steps p.tables e below (T8.setTop (mkF m 114 #[.val (.ref r0), .val (.int i1), .val (.long j2), .second, .val (.long j3), .second, .val (.long j4), .second, .val (.long j5), .second, .val (.int i6)] [(.ref r0)])) _
    refine XS.lloadN X8.here hx rfl (hb hby d6_114) rfl ?_
    show Steps p.tables e below (T8.setTop (mkF m 115 #[.val (.ref r0), .val (.int i1), .val (.long j2), .second, .val (.long j3), .second, .val (.long j4), .second, .val (.long j5), .second, .val (.int i6)] [(.long j2), (.ref r0)])) _
    refine st12 _ ?_
    show Steps p.tables e below (T12.setTop (mkF m 118 #[.val (.ref r0), .val (.int i1), .val (.long j2), .second, .val (.long j3), .second, .val (.long j4), .second, .val (.long j5), .second, .val (.int i6)] [])) _
    refine XS.aloadN X12.here hx rfl (hb hby d6_118) rfl rfl ?_
    show Steps p.tables e below (T12.setTop (mkF m 119 #[.val (.ref r0), .val (.int i1), .val (.long j2), .second, .val (.long j3), .second, .val (.long j4), .second, .val (.long j5), .second, .val (.int i6)] [(.ref r0)])) _
    refine XS.lload X12.here hx rfl (hb hby d6_119) rfl ?_
    show Steps p.tables e below (T12.setTop (mkF m 121 #[.val (.ref r0), .val (.int i1), .val (.long j2), .second, .val (.long j3), .second, .val (.long j4), .second, .val (.long j5), .second, .val (.int i6)] [(.long j3), (.ref r0)])) _
    refine st16 _ ?_
    show Steps p.tables e below (T16.setTop (mkF m 124 #[.val (.ref r0), .val (.int i1), .val (.long j2), .second, .val (.long j3), .second, .val (.long j4), .second, .val (.long j5), .second, .val (.int i6)] [])) _
    refine XS.aloadN X16.here hx rfl (hb hby d6_124) rfl rfl ?_
    show Steps p.tables e below (T16.setTop (mkF m 125 #[.val (.ref r0), .val (.int i1), .val (.long j2), .second, .val (.long j3), .second, .val (.long j4), .second, .val (.long j5), .second, .val (.int i6)] [(.ref r0)])) _
    refine XS.lload X16.here hx rfl (hb hby d6_125) rfl ?_
    show Steps p.tables e below (T16.setTop (mkF m 127 #[.val (.ref r0), .val (.int i1), .val (.long j2), .second, .val (.long j3), .second, .val (.long j4), .second, .val (.long j5), .second, .val (.int i6)] [(.long j4), (.ref r0)])) _
    refine st20 _ ?_
    show Steps p.tables e below (T20.setTop (mkF m 130 #[.val (.ref r0), .val (.int i1), .val (.long j2), .second, .val (.long j3), .second, .val (.long j4), .second, .val (.long j5), .second, .val (.int i6)] [])) _
    refine XS.aloadN X20.here hx rfl (hb hby d6_130) rfl rfl ?_
    show Steps p.tables e below (T20.setTop (mkF m 131 #[.val (.ref r0), .val (.int i1), .val (.long j2), .second, .val (.long j3), .second, .val (.long j4), .second, .val (.long j5), .second, .val (.int i6)] [(.ref r0)])) _
    refine XS.lload X20.here hx rfl (hb hby d6_131) rfl ?_
    show Steps p.tables e below (T20.setTop (mkF m 133 #[.val (.ref r0), .val (.int i1), .val (.long j2), .second, .val (.long j3), .second, .val (.long j4), .second, .val (.long j5), .second, .val (.int i6)] [(.long j5), (.ref r0)])) _
    refine st24 _ ?_
    show Steps p.tables e below (T24.setTop (mkF m 136 #[.val (.ref r0), .val (.int i1), .val (.long j2), .second, .val (.long j3), .second, .val (.long j4), .second, .val (.long j5), .second, .val (.int i6)] [])) _
    refine XS.aloadN X24.here hx rfl (hb hby d6_136) rfl rfl ?_
    show Steps p.tables e below (T24.setTop (mkF m 137 #[.val (.ref r0), .val (.int i1), .val (.long j2), .second, .val (.long j3), .second, .val (.long j4), .second, .val (.long j5), .second, .val (.int i6)] [(.ref r0)])) _
    refine XS.iload X24.here hx rfl (hb hby d6_137) rfl ?_
    show Steps p.tables e below (T24.setTop (mkF m 139 #[.val (.ref r0), .val (.int i1), .val (.long j2), .second, .val (.long j3), .second, .val (.long j4), .second, .val (.long j5), .second, .val (.int i6)] [(.int i6), (.ref r0)])) _
    refine st28 _ ?_
    exact k
  have f31 := (f26.wr W28)
  have f32 := (((((F8.other W12 (Or.inr (slot_ne (Or.inr (hw _ (List.mem_of_getElem? (i := 39) rfl))) (Or.inr (hw _ (List.mem_of_getElem? (i := 41) rfl))) (by decide) (t := .boolean) (t' := .long) (by decide) (by decide)))).other W16 (Or.inr (slot_ne (Or.inr (hw _ (List.mem_of_getElem? (i := 39) rfl))) (Or.inr (hw _ (List.mem_of_getElem? (i := 43) rfl))) (by decide) (t := .boolean) (t' := .long) (by decide) (by decide)))).other W20 (Or.inr (slot_ne (Or.inr (hw _ (List.mem_of_getElem? (i := 39) rfl))) (Or.inr (hw _ (List.mem_of_getElem? (i := 45) rfl))) (by decide) (t := .boolean) (t' := .long) (by decide) (by decide)))).other W24 (Or.inr (slot_ne (Or.inr (hw _ (List.mem_of_getElem? (i := 39) rfl))) (Or.inr (hw _ (List.mem_of_getElem? (i := 47) rfl))) (by decide) (t := .boolean) (t' := .long) (by decide) (by decide)))).other W28 (Or.inr (slot_ne (Or.inr (hw _ (List.mem_of_getElem? (i := 39) rfl))) (Or.inr (hw _ (List.mem_of_getElem? (i := 49) rfl))) (by decide) (t := .boolean) (t' := .boolean) (by decide) (by decide))))
  have f33 := ((((F12.other W16 (Or.inr (slot_ne (Or.inr (hw _ (List.mem_of_getElem? (i := 41) rfl))) (Or.inr (hw _ (List.mem_of_getElem? (i := 43) rfl))) (by decide) (t := .long) (t' := .long) (by decide) (by decide)))).other W20 (Or.inr (slot_ne (Or.inr (hw _ (List.mem_of_getElem? (i := 41) rfl))) (Or.inr (hw _ (List.mem_of_getElem? (i := 45) rfl))) (by decide) (t := .long) (t' := .long) (by decide) (by decide)))).other W24 (Or.inr (slot_ne (Or.inr (hw _ (List.mem_of_getElem? (i := 41) rfl))) (Or.inr (hw _ (List.mem_of_getElem? (i := 47) rfl))) (by decide) (t := .long) (t' := .long) (by decide) (by decide)))).other W28 (Or.inr (slot_ne (Or.inr (hw _ (List.mem_of_getElem? (i := 41) rfl))) (Or.inr (hw _ (List.mem_of_getElem? (i := 49) rfl))) (by decide) (t := .long) (t' := .boolean) (by decide) (by decide))))
  have f34 := (((F16.other W20 (Or.inr (slot_ne (Or.inr (hw _ (List.mem_of_getElem? (i := 43) rfl))) (Or.inr (hw _ (List.mem_of_getElem? (i := 45) rfl))) (by decide) (t := .long) (t' := .long) (by decide) (by decide)))).other W24 (Or.inr (slot_ne (Or.inr (hw _ (List.mem_of_getElem? (i := 43) rfl))) (Or.inr (hw _ (List.mem_of_getElem? (i := 47) rfl))) (by decide) (t := .long) (t' := .long) (by decide) (by decide)))).other W28 (Or.inr (slot_ne (Or.inr (hw _ (List.mem_of_getElem? (i := 43) rfl))) (Or.inr (hw _ (List.mem_of_getElem? (i := 49) rfl))) (by decide) (t := .long) (t' := .boolean) (by decide) (by decide))))
  have f35 := ((F20.other W24 (Or.inr (slot_ne (Or.inr (hw _ (List.mem_of_getElem? (i := 45) rfl))) (Or.inr (hw _ (List.mem_of_getElem? (i := 47) rfl))) (by decide) (t := .long) (t' := .long) (by decide) (by decide)))).other W28 (Or.inr (slot_ne (Or.inr (hw _ (List.mem_of_getElem? (i := 45) rfl))) (Or.inr (hw _ (List.mem_of_getElem? (i := 49) rfl))) (by decide) (t := .long) (t' := .boolean) (by decide) (by decide))))
  have f36 := (F24.other W28 (Or.inr (slot_ne (Or.inr (hw _ (List.mem_of_getElem? (i := 47) rfl))) (Or.inr (hw _ (List.mem_of_getElem? (i := 49) rfl))) (by decide) (t := .long) (t' := .boolean) (by decide) (by decide))))
  obtain ⟨fs, hr, hrun, hended, hW, hsame⟩ := X28.leave (v := none) (fun _ => rfl)
  refine ⟨_, _, pre30 _ ?_, hrun, hended, _, _, rfl, ?_, ⟨_, rfl⟩, hW, hsame.mono (by decide) (by decide)⟩
  · show Steps p.tables e below (T28.setTop (mkF m 142 #[.val (.ref r0), .val (.int i1), .val (.long j2), .second, .val (.long j3), .second, .val (.long j4), .second, .val (.long j5), .second, .val (.int i6)] [])) _
    exact X28.returnOut hx Bd.returns (hb hby d6_142) hr
  · show Q6 Z r0 i1 j2 j3 j4 j5 i6 u_allowed_r0 u_limit_r0 u_remaining_r0 u_retryAfterMillis_r0 u_resetAfterMillis_r0 u_degraded_r0 h0 n0 _ T28.heap _
    rw [e28]
    exact ⟨rfl, N28, K29, f31, f32, f33, f34, f35, f36, F28⟩
def Q5 (Z : State) (r0 : Addr) (i1 : Int32) (j2 : Int64) (j3 : Int64) (j4 : Int64) (j5 : Int64) (u_allowed_r0 : Value) (u_limit_r0 : Value) (u_remaining_r0 : Value) (u_retryAfterMillis_r0 : Value) (u_resetAfterMillis_r0 : Value) (u_degraded_r0 : Value) (h0 : Heap) (n0 : Nat) (v : Option Value) (h : Heap) (L : List Loc) : Prop := v = none ∧ Fr n0 L ∧ Keep h0 h [r0] ∧ Exa Z h r0 "com/example/burst/burst/Decision" ∧ Fld Z h r0 "com/example/burst/burst/Decision" "allowed" "Z" (.int (nar .boolean i1)) ∧ Fld Z h r0 "com/example/burst/burst/Decision" "limit" "J" (.long j2) ∧ Fld Z h r0 "com/example/burst/burst/Decision" "remaining" "J" (.long j3) ∧ Fld Z h r0 "com/example/burst/burst/Decision" "retryAfterMillis" "J" (.long j4) ∧ Fld Z h r0 "com/example/burst/burst/Decision" "resetAfterMillis" "J" (.long j5) ∧ Fld Z h r0 "com/example/burst/burst/Decision" "degraded" "Z" (.int (nar .boolean (0 : Int32)))
theorem ef_5 (m : MethodId) (x0 : Addr) (x1 : Int32) (x2 : Int64) (x3 : Int64) (x4 : Int64) (x5 : Int64) : entryFrame m #[(.ref x0), (.int x1), (.long x2), (.long x3), (.long x4), (.long x5)] 10 = mkF m 0 #[.val (.ref x0), .val (.int x1), .val (.long x2), .second, .val (.long x3), .second, .val (.long x4), .second, .val (.long x5), .second] [] := by first | (simp [entryFrame, mkF, argsToLocals, Value.category]; done) | rfl
set_option maxRecDepth 65536 in
set_option maxHeartbeats 40000000 in
theorem rm5 (l : Launch) (Z : State) (a0 : Array Value) (hw : ∀ d ∈ tables_1, d.before a0 Z = true) (ws : List Jvm.Cond) (r0 : Addr) (i1 : Int32) (j2 : Int64) (j3 : Int64) (j4 : Int64) (j5 : Int64) (u_allowed_r0 : Value) (u_limit_r0 : Value) (u_remaining_r0 : Value) (u_retryAfterMillis_r0 : Value) (u_resetAfterMillis_r0 : Value) (u_degraded_r0 : Value) (h0 : Heap) (n0 : Nat) (Z0 : n0 ≤ h0.size) (E_r0 : Exa Z h0 r0 "com/example/burst/burst/Decision") (F_allowed_r0 : Fld Z h0 r0 "com/example/burst/burst/Decision" "allowed" "Z" u_allowed_r0) (g_r0 : n0 ≤ r0) (F_limit_r0 : Fld Z h0 r0 "com/example/burst/burst/Decision" "limit" "J" u_limit_r0) (F_remaining_r0 : Fld Z h0 r0 "com/example/burst/burst/Decision" "remaining" "J" u_remaining_r0) (F_retryAfterMillis_r0 : Fld Z h0 r0 "com/example/burst/burst/Decision" "retryAfterMillis" "J" u_retryAfterMillis_r0) (F_resetAfterMillis_r0 : Fld Z h0 r0 "com/example/burst/burst/Decision" "resetAfterMillis" "J" u_resetAfterMillis_r0) (F_degraded_r0 : Fld Z h0 r0 "com/example/burst/burst/Decision" "degraded" "Z" u_degraded_r0) (hp10_0 : ¬ (j3 < (0 : Int64))) (hp10_1 : ¬ (j2 < j3)) (hp10_2 : ¬ (j4 < (-1 : Int64))) (hp10_3 : (¬ (i1 = (0 : Int32)) → j4 = (-1 : Int64))) (hp10_4 : ¬ (j5 < (0 : Int64))) :
    MetFree l (⟨"com/example/burst/burst/Decision", "<init>", "(ZJJJJ)V"⟩ : MethodName) (head1 (Jvm.Cond.code (⟨"com/example/burst/burst/Decision", "<init>", "(ZJJJJ)V"⟩ : MethodName) prog_3_method_2_code 10 none :: ws) ({ frames := 3, cells := 0, slots := 0, locals := 46 } : Room)) (fun a U => a = #[(.ref r0), (.int i1), (.long j2), (.long j3), (.long j4), (.long j5)] ∧ Z.Warmed39 U.vm ∧ U.heap = h0) (fun _ _ _ _ _ => True) (fun _ U o U' => ∃ v L, o = .returned v ∧ Q5 Z r0 i1 j2 j3 j4 j5 u_allowed_r0 u_limit_r0 u_remaining_r0 u_retryAfterMillis_r0 u_resetAfterMillis_r0 u_degraded_r0 h0 n0 v U'.heap L ∧ FrameEnd U o U' L ({ frames := 3, cells := 0, slots := 0, locals := 46 } : Room).cells ({ frames := 3, cells := 0, slots := 0, locals := 46 } : Room).slots) := by
  refine MetFree.of_bodySF (plainFor_of_name pn_3) hisR ?_
  intro p e s m args below meth c s₁ Bd hml0 hP hK
  obtain ⟨rfl, hZ, hh⟩ := hP
  have hx := Bd.exec
  have hby := Bd.bytes
  have hml : c.maxLocals = 10 := hml0
  have hown : s.vm.findClass "com/example/burst/burst/Decision" = some m.cls := findClass_of_methodNamed Bd.named
  have hnm := (name_of_methodNamed Bd.named Bd.method).1
  have X0 : Stand p l e ({ frames := 3, cells := 0, slots := 0, locals := 46 } : Room) s m #[(.ref r0), (.int i1), (.long j2), (.long j3), (.long j4), (.long j5)] below meth c s₁ [] 0 0 := Stand.of_body Bd
  have e0 : s₁.heap = h0 := by rw [← hh, Bd.state]; rfl
  have N0 := Fr.nil n0
  have pre0 : ∀ t, Steps p.tables e below (s₁.setTop (mkF m 0 #[.val (.ref r0), .val (.int i1), .val (.long j2), .second, .val (.long j3), .second, .val (.long j4), .second, .val (.long j5), .second] [])) t → Steps p.tables e below (s₁.setTop (entryFrame m #[(.ref r0), (.int i1), (.long j2), (.long j3), (.long j4), (.long j5)] 10)) t := fun t k => castTop (ef_5 m r0 i1 j2 j3 j4 j5) k
  obtain ⟨_, _, ⟨T1, L1, k1, n1⟩, -, X1, ⟨Lc1, hQ1, l1, y1, z1⟩, st1⟩ := X0.specialBack hx (y := (⟨"com/example/burst/burst/Decision", "<init>", "(ZJJJJZ)V"⟩ : MethodName)) rfl hown (mvT hZ (hw _ (List.mem_of_getElem? (i := 26) rfl))) (mvT hZ (hw _ (List.mem_of_getElem? (i := 27) rfl))) (mvT hZ (hw _ (List.mem_of_getElem? (i := 28) rfl))) (by decide) (backOf (W := 0) (rm6 l Z a0 hw [] r0 i1 j2 j3 j4 j5 (0 : Int32) u_allowed_r0 u_limit_r0 u_remaining_r0 u_retryAfterMillis_r0 u_resetAfterMillis_r0 u_degraded_r0 h0 n0 (Nat.le_trans Z0 (Keep.refl h0 [r0]).1) hp10_0 hp10_1 hp10_2 hp10_3 hp10_4 E_r0 F_allowed_r0 g_r0 F_limit_r0 F_remaining_r0 F_retryAfterMillis_r0 F_resetAfterMillis_r0 F_degraded_r0) hZ (hw _ (List.mem_of_getElem? (i := 28) rfl)) (hw _ (List.mem_of_getElem? (i := 22) rfl)) (by decide) (by decide)) (g := (mkF m 10 #[.val (.ref r0), .val (.int i1), .val (.long j2), .second, .val (.long j3), .second, .val (.long j4), .second, .val (.long j5), .second] [(.int (0 : Int32)), (.long j5), (.long j4), (.long j3), (.long j2), (.int i1), (.ref r0)])) rfl (by rw [hml]; rfl) (Steps.refl _) (a := r0) (argsL := [(.int i1), (.long j2), (.long j3), (.long j4), (.long j5), (.int (0 : Int32))]) (rest := []) (lenOf pd_3 rfl) rfl (by show 2 * 0 + _ ≤ _; exact Nat.le_of_eq rfl) (hb hby d5_10) (fun _ _ => ⟨rfl, e0, (by decide : 0 + 0 ≤ _), (by decide : 0 + 0 ≤ _)⟩)
  dsimp only [Pt.U, Pt.locs, Pt.cells, Pt.slots] at X1 l1 y1 z1 st1 hQ1
  subst l1 y1 z1
  obtain ⟨rfl, Nq1, Kq1, f1_0, f1_1, f1_2, f1_3, f1_4, f1_5, f1_6⟩ := hQ1
  have K2 : Keep h0 T1.heap [r0] := (Keep.refl h0 [r0]).trans Kq1 (allS (Or.inl (List.mem_of_getElem? (i := 0) rfl)) all0)
  have N1 := Fr.app N0 Nq1
  have pre3 : ∀ t, Steps p.tables e below (T1.setTop (mkF m 13 #[.val (.ref r0), .val (.int i1), .val (.long j2), .second, .val (.long j3), .second, .val (.long j4), .second, .val (.long j5), .second] [])) t → Steps p.tables e below (s₁.setTop (entryFrame m #[(.ref r0), (.int i1), (.long j2), (.long j3), (.long j4), (.long j5)] 10)) t := by
    intro t k
    refine pre0 _ ?_
    show Steps p.tables e below (s₁.setTop (mkF m 0 #[.val (.ref r0), .val (.int i1), .val (.long j2), .second, .val (.long j3), .second, .val (.long j4), .second, .val (.long j5), .second] [])) _
    refine XS.aloadN X0.here hx rfl (hb hby d5_0) rfl rfl ?_
    show Steps p.tables e below (s₁.setTop (mkF m 1 #[.val (.ref r0), .val (.int i1), .val (.long j2), .second, .val (.long j3), .second, .val (.long j4), .second, .val (.long j5), .second] [(.ref r0)])) _
    refine XS.iloadN X0.here hx rfl (hb hby d5_1) rfl ?_
    show Steps p.tables e below (s₁.setTop (mkF m 2 #[.val (.ref r0), .val (.int i1), .val (.long j2), .second, .val (.long j3), .second, .val (.long j4), .second, .val (.long j5), .second] [(.int i1), (.ref r0)])) _
    refine XS.lloadN X0.here hx rfl (hb hby d5_2) rfl ?_
    show Steps p.tables e below (s₁.setTop (mkF m 3 #[.val (.ref r0), .val (.int i1), .val (.long j2), .second, .val (.long j3), .second, .val (.long j4), .second, .val (.long j5), .second] [(.long j2), (.int i1), (.ref r0)])) _
    refine XS.lload X0.here hx rfl (hb hby d5_3) rfl ?_
    show Steps p.tables e below (s₁.setTop (mkF m 5 #[.val (.ref r0), .val (.int i1), .val (.long j2), .second, .val (.long j3), .second, .val (.long j4), .second, .val (.long j5), .second] [(.long j3), (.long j2), (.int i1), (.ref r0)])) _
    refine XS.lload X0.here hx rfl (hb hby d5_5) rfl ?_
    show Steps p.tables e below (s₁.setTop (mkF m 7 #[.val (.ref r0), .val (.int i1), .val (.long j2), .second, .val (.long j3), .second, .val (.long j4), .second, .val (.long j5), .second] [(.long j4), (.long j3), (.long j2), (.int i1), (.ref r0)])) _
    refine XS.lload X0.here hx rfl (hb hby d5_7) rfl ?_
    show Steps p.tables e below (s₁.setTop (mkF m 9 #[.val (.ref r0), .val (.int i1), .val (.long j2), .second, .val (.long j3), .second, .val (.long j4), .second, .val (.long j5), .second] [(.long j5), (.long j4), (.long j3), (.long j2), (.int i1), (.ref r0)])) _
    refine XS.iconst X0.here hx rfl (hb hby d5_9) ?_
    show Steps p.tables e below (s₁.setTop (mkF m 10 #[.val (.ref r0), .val (.int i1), .val (.long j2), .second, .val (.long j3), .second, .val (.long j4), .second, .val (.long j5), .second] [(.int (0 : Int32)), (.long j5), (.long j4), (.long j3), (.long j2), (.int i1), (.ref r0)])) _
    refine st1.trans ?_
    exact k
  obtain ⟨fs, hr, hrun, hended, hW, hsame⟩ := X1.leave (v := none) (fun _ => rfl)
  refine ⟨_, _, pre3 _ ?_, hrun, hended, _, _, rfl, ?_, ⟨_, rfl⟩, hW, hsame.mono (by decide) (by decide)⟩
  · show Steps p.tables e below (T1.setTop (mkF m 13 #[.val (.ref r0), .val (.int i1), .val (.long j2), .second, .val (.long j3), .second, .val (.long j4), .second, .val (.long j5), .second] [])) _
    exact X1.returnOut hx Bd.returns (hb hby d5_13) hr
  · show Q5 Z r0 i1 j2 j3 j4 j5 u_allowed_r0 u_limit_r0 u_remaining_r0 u_retryAfterMillis_r0 u_resetAfterMillis_r0 u_degraded_r0 h0 n0 _ T1.heap _
    exact ⟨rfl, N1, K2, f1_0, f1_1, f1_2, f1_3, f1_4, f1_5, f1_6⟩
def own_j2_6_0 (j4 : Int64) : Int64 := (if j4 = (-1 : Int64) then (-1 : Int64) else (-(own_r4 (-j4) (1000 : Int64))))
def Q2 (Z : State) (i1 : Int32) (j2 : Int64) (j3 : Int64) (j4 : Int64) (j5 : Int64) (h0 : Heap) (n0 : Nat) (v : Option Value) (h : Heap) (L : List Loc) : Prop := ∃ (b7 : Addr), v = some (.ref b7) ∧ Fr n0 L ∧ Keep h0 h [] ∧ h0.size ≤ b7 ∧ Exa Z h b7 "com/example/burst/burst/Decision" ∧ Fld Z h b7 "com/example/burst/burst/Decision" "allowed" "Z" (.int (nar .boolean i1)) ∧ Fld Z h b7 "com/example/burst/burst/Decision" "limit" "J" (.long j2) ∧ Fld Z h b7 "com/example/burst/burst/Decision" "remaining" "J" (.long j3) ∧ Fld Z h b7 "com/example/burst/burst/Decision" "retryAfterMillis" "J" (.long (own_j2_6_0 j4)) ∧ Fld Z h b7 "com/example/burst/burst/Decision" "resetAfterMillis" "J" (.long (-(own_r4 (-j5) (1000 : Int64)))) ∧ Fld Z h b7 "com/example/burst/burst/Decision" "degraded" "Z" (.int (nar .boolean (0 : Int32)))
theorem ef_2 (m : MethodId) (x0 : Int32) (x1 : Int64) (x2 : Int64) (x3 : Int64) (x4 : Int64) : entryFrame m #[(.int x0), (.long x1), (.long x2), (.long x3), (.long x4)] 11 = mkF m 0 #[.val (.int x0), .val (.long x1), .second, .val (.long x2), .second, .val (.long x3), .second, .val (.long x4), .second, .unset, .unset] [] := by first | (simp [entryFrame, mkF, argsToLocals, Value.category]; done) | rfl
set_option maxRecDepth 65536 in
set_option maxHeartbeats 40000000 in
theorem rm2 (l : Launch) (Z : State) (a0 : Array Value) (hw : ∀ d ∈ tables_1, d.before a0 Z = true) (ws : List Jvm.Cond) (i1 : Int32) (j2 : Int64) (j3 : Int64) (j4 : Int64) (j5 : Int64) (h0 : Heap) (n0 : Nat) (Z0 : n0 ≤ h0.size) (hp36_8 : ¬ (j3 < (0 : Int64))) (hp36_9 : ¬ (j2 < j3)) (hp36_10 : ¬ ((own_j2_6_0 j4) < (-1 : Int64))) (hp36_11 : (¬ (i1 = (0 : Int32)) → (own_j2_6_0 j4) = (-1 : Int64))) (hp36_12 : ¬ ((-(own_r4 (-j5) (1000 : Int64))) < (0 : Int64))) :
    MetFree l (⟨"com/example/burst/burst/MemoryRule", "decision", "(ZJJJJ)Lcom/example/burst/burst/Decision;"⟩ : MethodName) (head1 (Jvm.Cond.code (⟨"com/example/burst/burst/MemoryRule", "decision", "(ZJJJJ)Lcom/example/burst/burst/Decision;"⟩ : MethodName) prog_8_method_2_code 11 (some (.object "com/example/burst/burst/Decision")) :: ws) ({ frames := 4, cells := 1, slots := 6, locals := 68 } : Room)) (fun a U => a = #[(.int i1), (.long j2), (.long j3), (.long j4), (.long j5)] ∧ Z.Warmed39 U.vm ∧ U.heap = h0) (fun _ _ _ _ _ => True) (fun _ U o U' => ∃ v L, o = .returned v ∧ Q2 Z i1 j2 j3 j4 j5 h0 n0 v U'.heap L ∧ FrameEnd U o U' L ({ frames := 4, cells := 1, slots := 6, locals := 68 } : Room).cells ({ frames := 4, cells := 1, slots := 6, locals := 68 } : Room).slots) := by
  refine MetFree.of_bodySF (plainFor_of_name pn_1) hisR ?_
  intro p e s m args below meth c s₁ Bd hml0 hP hK
  obtain ⟨rfl, hZ, hh⟩ := hP
  have hx := Bd.exec
  have hby := Bd.bytes
  have hml : c.maxLocals = 11 := hml0
  have hown : s.vm.findClass "com/example/burst/burst/MemoryRule" = some m.cls := findClass_of_methodNamed Bd.named
  have hnm := (name_of_methodNamed Bd.named Bd.method).1
  have X0 : Stand p l e ({ frames := 4, cells := 1, slots := 6, locals := 68 } : Room) s m #[(.int i1), (.long j2), (.long j3), (.long j4), (.long j5)] below meth c s₁ [] 0 0 := Stand.of_body Bd
  have e0 : s₁.heap = h0 := by rw [← hh, Bd.state]; rfl
  have N0 := Fr.nil n0
  have pre0 : ∀ t, Steps p.tables e below (s₁.setTop (mkF m 0 #[.val (.int i1), .val (.long j2), .second, .val (.long j3), .second, .val (.long j4), .second, .val (.long j5), .second, .unset, .unset] [])) t → Steps p.tables e below (s₁.setTop (entryFrame m #[(.int i1), (.long j2), (.long j3), (.long j4), (.long j5)] 11)) t := fun t k => castTop (ef_2 m i1 j2 j3 j4 j5) k
  have pre1 : ∀ t, Steps p.tables e below (s₁.setTop (mkF m 6 #[.val (.int i1), .val (.long j2), .second, .val (.long j3), .second, .val (.long j4), .second, .val (.long j5), .second, .unset, .unset] [(.int (lcmpW j4 (-1 : Int64)))])) t → Steps p.tables e below (s₁.setTop (entryFrame m #[(.int i1), (.long j2), (.long j3), (.long j4), (.long j5)] 11)) t := by
    intro t k
    refine pre0 _ ?_
    show Steps p.tables e below (s₁.setTop (mkF m 0 #[.val (.int i1), .val (.long j2), .second, .val (.long j3), .second, .val (.long j4), .second, .val (.long j5), .second, .unset, .unset] [])) _
    refine XS.lload X0.here hx rfl (hb hby d2_0) rfl ?_
    show Steps p.tables e below (s₁.setTop (mkF m 2 #[.val (.int i1), .val (.long j2), .second, .val (.long j3), .second, .val (.long j4), .second, .val (.long j5), .second, .unset, .unset] [(.long j4)])) _
    refine X0.ldc2Long hx hown (mvT hZ (hw _ (List.mem_of_getElem? (i := 11) rfl))) (g := (mkF m 2 #[.val (.int i1), .val (.long j2), .second, .val (.long j3), .second, .val (.long j4), .second, .val (.long j5), .second, .unset, .unset] [(.long j4)])) rfl (hb hby d2_2) _ ?_
    show Steps p.tables e below (s₁.setTop (mkF m 5 #[.val (.int i1), .val (.long j2), .second, .val (.long j3), .second, .val (.long j4), .second, .val (.long j5), .second, .unset, .unset] [(.long (-1 : Int64)), (.long j4)])) _
    refine XS.lcmp X0.here hx rfl (hb hby d2_5) rfl ?_
    exact k
  obtain ⟨T6, Lq6, X6, N6, e6, pre6⟩ : ∃ (T' : State) (locs' : List Loc), Stand p l e ({ frames := 4, cells := 1, slots := 6, locals := 68 } : Room) s m #[(.int i1), (.long j2), (.long j3), (.long j4), (.long j5)] below meth c T' locs' 0 0 ∧ Fr n0 locs' ∧ T'.heap = h0 ∧ ∀ t, Steps p.tables e below (T'.setTop (mkF m 20 #[.val (.int i1), .val (.long j2), .second, .val (.long j3), .second, .val (.long j4), .second, .val (.long j5), .second, .unset, .unset] [(.long (own_j2_6_0 j4))])) t → Steps p.tables e below (s₁.setTop (entryFrame m #[(.int i1), (.long j2), (.long j3), (.long j4), (.long j5)] 11)) t := by
    by_cases hc6_2 : j4 = (-1 : Int64)
    · have pre3 : ∀ t, Steps p.tables e below (s₁.setTop (mkF m 20 #[.val (.int i1), .val (.long j2), .second, .val (.long j3), .second, .val (.long j4), .second, .val (.long j5), .second, .unset, .unset] [(.long (-1 : Int64))])) t → Steps p.tables e below (s₁.setTop (entryFrame m #[(.int i1), (.long j2), (.long j3), (.long j4), (.long j5)] 11)) t := by
        intro t k
        refine pre1 _ ?_
        show Steps p.tables e below (s₁.setTop (mkF m 6 #[.val (.int i1), .val (.long j2), .second, .val (.long j3), .second, .val (.long j4), .second, .val (.long j5), .second, .unset, .unset] [(.int (lcmpW j4 (-1 : Int64)))])) _
        refine XS.ifNo X0.here hx rfl (hb hby d2_6) rfl ((if0 _ _).trans (teq ((lw_eq j4 (-1 : Int64)).mpr hc6_2)).2) ?_
        show Steps p.tables e below (s₁.setTop (mkF m 9 #[.val (.int i1), .val (.long j2), .second, .val (.long j3), .second, .val (.long j4), .second, .val (.long j5), .second, .unset, .unset] [])) _
        refine X0.ldc2Long hx hown (mvT hZ (hw _ (List.mem_of_getElem? (i := 11) rfl))) (g := (mkF m 9 #[.val (.int i1), .val (.long j2), .second, .val (.long j3), .second, .val (.long j4), .second, .val (.long j5), .second, .unset, .unset] [])) rfl (hb hby d2_9) _ ?_
        show Steps p.tables e below (s₁.setTop (mkF m 12 #[.val (.int i1), .val (.long j2), .second, .val (.long j3), .second, .val (.long j4), .second, .val (.long j5), .second, .unset, .unset] [(.long (-1 : Int64))])) _
        refine XS.goto X0.here hx rfl (pc0 := 12) (pc' := 20) rfl (hb hby d2_12) (by decide) (by decide) ?_
        exact k
      exact ⟨s₁, _, X0, N0, e0, fun t k => pre3 t (by rw [show (own_j2_6_0 j4) = (-1 : Int64) from (if_pos hc6_2)] at k; exact k)⟩
    · obtain ⟨_, _, ⟨T4, L4, k4, n4⟩, -, X4, ⟨Lc4, hQ4, l4, y4, z4⟩, st4⟩ := Jvm.LawKit.callS X0 hx (y := (⟨"com/example/burst/burst/MemoryRule", "millisRoundedUp", "(J)J"⟩ : MethodName)) hown (mvT hZ (hw _ (List.mem_of_getElem? (i := 12) rfl))) (mvT hZ (hw _ (List.mem_of_getElem? (i := 13) rfl))) (mvT hZ (hw _ (List.mem_of_getElem? (i := 9) rfl))) (mvT hZ (hw _ (List.mem_of_getElem? (i := 14) rfl))) (by decide) (backOf (W := 0) (rm3 l Z a0 hw [] j4 h0 n0 (Nat.le_trans Z0 (Keep.refl h0 []).1) ) hZ (hw _ (List.mem_of_getElem? (i := 14) rfl)) (hw _ (List.mem_of_getElem? (i := 9) rfl)) (by decide) (by decide)) (g := (mkF m 17 #[.val (.int i1), .val (.long j2), .second, .val (.long j3), .second, .val (.long j4), .second, .val (.long j5), .second, .unset, .unset] [(.long j4)])) rfl (by rw [hml]; rfl) (argsL := [(.long j4)]) (rest := []) (lenOf pd_0 rfl) rfl (by show 2 * 0 + _ ≤ _; exact Nat.le_of_eq rfl) (hb hby d2_17) (fun _ _ => ⟨rfl, e0, (by decide : 0 + 0 ≤ _), (by decide : 0 + 0 ≤ _)⟩)
      dsimp only [Pt.U, Pt.locs, Pt.cells, Pt.slots] at X4 l4 y4 z4 st4 hQ4
      subst l4 y4 z4
      obtain ⟨rfl, Nq4, e4⟩ := hQ4
      have N4 := Fr.app N0 Nq4
      have pre5 : ∀ t, Steps p.tables e below (T4.setTop (mkF m 20 #[.val (.int i1), .val (.long j2), .second, .val (.long j3), .second, .val (.long j4), .second, .val (.long j5), .second, .unset, .unset] [(.long (-(own_r4 (-j4) (1000 : Int64))))])) t → Steps p.tables e below (s₁.setTop (entryFrame m #[(.int i1), (.long j2), (.long j3), (.long j4), (.long j5)] 11)) t := by
        intro t k
        refine pre1 _ ?_
        show Steps p.tables e below (s₁.setTop (mkF m 6 #[.val (.int i1), .val (.long j2), .second, .val (.long j3), .second, .val (.long j4), .second, .val (.long j5), .second, .unset, .unset] [(.int (lcmpW j4 (-1 : Int64)))])) _
        refine XS.ifYes X0.here hx rfl (pc0 := 6) (pc' := 15) rfl (hb hby d2_6) rfl ((if0 _ _).trans (feq (mt (lw_eq j4 (-1 : Int64)).mp hc6_2)).2) (by decide) (by decide) ?_
        show Steps p.tables e below (s₁.setTop (mkF m 15 #[.val (.int i1), .val (.long j2), .second, .val (.long j3), .second, .val (.long j4), .second, .val (.long j5), .second, .unset, .unset] [])) _
        refine XS.lload X0.here hx rfl (hb hby d2_15) rfl ?_
        show Steps p.tables e below (s₁.setTop (mkF m 17 #[.val (.int i1), .val (.long j2), .second, .val (.long j3), .second, .val (.long j4), .second, .val (.long j5), .second, .unset, .unset] [(.long j4)])) _
        refine st4 _ ?_
        exact k
      exact ⟨T4, _, X4, N4, e4, fun t k => pre5 t (by rw [show (own_j2_6_0 j4) = (-(own_r4 (-j4) (1000 : Int64))) from (if_neg hc6_2)] at k; exact k)⟩
  obtain ⟨T7, h7, X7, e7, E7, A7, D7, -, st7⟩ := newO X6 hx hZ hown (hw _ (List.mem_of_getElem? (i := 20) rfl)) (hw _ (List.mem_of_getElem? (i := 21) rfl)) (hw _ (List.mem_of_getElem? (i := 22) rfl)) e6 (g := (mkF m 22 #[.val (.int i1), .val (.long j2), .second, .val (.long j3), .second, .val (.long j4), .second, .val (.long j5), .second, .val (.long (own_j2_6_0 j4)), .second] [])) rfl (hb hby d2_22) (by decide) (by decide)
  obtain ⟨b7, g7⟩ : ∃ z, z = h0.size := ⟨_, rfl⟩
  rw [← g7] at A7 D7 st7
  have sz_b7 : h0.size ≤ b7 := Nat.le_trans (Keep.refl h0 []).1 (Nat.le_of_eq g7.symm)
  have K8 : Keep h0 h7 [] := (Keep.refl h0 []).ext E7
  have Fallowed_7 : Fld Z h7 b7 "com/example/burst/burst/Decision" "allowed" "Z" (.int (0 : Int32)) := D7 (Or.inr (hw _ (List.mem_of_getElem? (i := 39) rfl))) (ty := .boolean) (by decide)
  have Flimit_7 : Fld Z h7 b7 "com/example/burst/burst/Decision" "limit" "J" (.long (0 : Int64)) := D7 (Or.inr (hw _ (List.mem_of_getElem? (i := 41) rfl))) (ty := .long) (by decide)
  have Fremaining_7 : Fld Z h7 b7 "com/example/burst/burst/Decision" "remaining" "J" (.long (0 : Int64)) := D7 (Or.inr (hw _ (List.mem_of_getElem? (i := 43) rfl))) (ty := .long) (by decide)
  have FretryAfterMillis_7 : Fld Z h7 b7 "com/example/burst/burst/Decision" "retryAfterMillis" "J" (.long (0 : Int64)) := D7 (Or.inr (hw _ (List.mem_of_getElem? (i := 45) rfl))) (ty := .long) (by decide)
  have FresetAfterMillis_7 : Fld Z h7 b7 "com/example/burst/burst/Decision" "resetAfterMillis" "J" (.long (0 : Int64)) := D7 (Or.inr (hw _ (List.mem_of_getElem? (i := 47) rfl))) (ty := .long) (by decide)
  have Fdegraded_7 : Fld Z h7 b7 "com/example/burst/burst/Decision" "degraded" "Z" (.int (0 : Int32)) := D7 (Or.inr (hw _ (List.mem_of_getElem? (i := 49) rfl))) (ty := .boolean) (by decide)
  obtain ⟨_, _, ⟨T9, L9, k9, n9⟩, -, X9, ⟨Lc9, hQ9, l9, y9, z9⟩, st9⟩ := Jvm.LawKit.callS X7 hx (y := (⟨"com/example/burst/burst/MemoryRule", "millisRoundedUp", "(J)J"⟩ : MethodName)) hown (mvT hZ (hw _ (List.mem_of_getElem? (i := 12) rfl))) (mvT hZ (hw _ (List.mem_of_getElem? (i := 13) rfl))) (mvT hZ (hw _ (List.mem_of_getElem? (i := 9) rfl))) (mvT hZ (hw _ (List.mem_of_getElem? (i := 14) rfl))) (by decide) (backOf (W := 9) (rm3 l Z a0 hw [] j5 h7 n0 (Nat.le_trans Z0 K8.1) ) hZ (hw _ (List.mem_of_getElem? (i := 14) rfl)) (hw _ (List.mem_of_getElem? (i := 9) rfl)) (by decide) (by decide)) (g := (mkF m 33 #[.val (.int i1), .val (.long j2), .second, .val (.long j3), .second, .val (.long j4), .second, .val (.long j5), .second, .val (.long (own_j2_6_0 j4)), .second] [(.long j5), (.long (own_j2_6_0 j4)), (.long j3), (.long j2), (.int i1), (.ref b7), (.ref b7)])) rfl (by rw [hml]; rfl) (argsL := [(.long j5)]) (rest := [(.long (own_j2_6_0 j4)), (.long j3), (.long j2), (.int i1), (.ref b7), (.ref b7)]) (lenOf pd_0 rfl) rfl (by show 2 * 0 + _ ≤ _; exact Nat.le_of_eq rfl) (hb hby d2_33) (fun _ _ => ⟨rfl, e7, (by decide : 1 + 0 ≤ _), (by decide : 6 + 0 ≤ _)⟩)
  dsimp only [Pt.U, Pt.locs, Pt.cells, Pt.slots] at X9 l9 y9 z9 st9 hQ9
  subst l9 y9 z9
  obtain ⟨rfl, Nq9, e9⟩ := hQ9
  have N9 := Fr.app N6 Nq9
  obtain ⟨_, _, ⟨T10, L10, k10, n10⟩, -, X10, ⟨Lc10, hQ10, l10, y10, z10⟩, st10⟩ := X9.specialBack hx (y := (⟨"com/example/burst/burst/Decision", "<init>", "(ZJJJJ)V"⟩ : MethodName)) rfl hown (mvT hZ (hw _ (List.mem_of_getElem? (i := 23) rfl))) (mvT hZ (hw _ (List.mem_of_getElem? (i := 24) rfl))) (mvT hZ (hw _ (List.mem_of_getElem? (i := 25) rfl))) (by decide) (backOf (W := 1) (rm5 l Z a0 hw [] b7 i1 j2 j3 (own_j2_6_0 j4) (-(own_r4 (-j5) (1000 : Int64))) (.int (0 : Int32)) (.long (0 : Int64)) (.long (0 : Int64)) (.long (0 : Int64)) (.long (0 : Int64)) (.int (0 : Int32)) h7 n0 (Nat.le_trans Z0 K8.1) A7 Fallowed_7 (Nat.le_trans Z0 sz_b7) Flimit_7 Fremaining_7 FretryAfterMillis_7 FresetAfterMillis_7 Fdegraded_7 hp36_8 hp36_9 hp36_10 hp36_11 hp36_12) hZ (hw _ (List.mem_of_getElem? (i := 25) rfl)) (hw _ (List.mem_of_getElem? (i := 22) rfl)) (by decide) (by decide)) (g := (mkF m 36 #[.val (.int i1), .val (.long j2), .second, .val (.long j3), .second, .val (.long j4), .second, .val (.long j5), .second, .val (.long (own_j2_6_0 j4)), .second] [(.long (-(own_r4 (-j5) (1000 : Int64)))), (.long (own_j2_6_0 j4)), (.long j3), (.long j2), (.int i1), (.ref b7), (.ref b7)])) rfl (by rw [hml]; rfl) (Steps.refl _) (a := b7) (argsL := [(.int i1), (.long j2), (.long j3), (.long (own_j2_6_0 j4)), (.long (-(own_r4 (-j5) (1000 : Int64))))]) (rest := [(.ref b7)]) (lenOf pd_4 rfl) rfl (by show 2 * 0 + _ ≤ _; exact Nat.le_of_eq rfl) (hb hby d2_36) (fun _ _ => ⟨rfl, e9, (by decide : 1 + 0 ≤ _), (by decide : 6 + 0 ≤ _)⟩)
  dsimp only [Pt.U, Pt.locs, Pt.cells, Pt.slots] at X10 l10 y10 z10 st10 hQ10
  subst l10 y10 z10
  obtain ⟨rfl, Nq10, Kq10, f10_0, f10_1, f10_2, f10_3, f10_4, f10_5, f10_6⟩ := hQ10
  have K11 : Keep h0 T10.heap [] := K8.trans Kq10 (allS (Or.inr sz_b7) all0)
  have N10 := Fr.app N9 Nq10
  have pre12 : ∀ t, Steps p.tables e below (T10.setTop (mkF m 39 #[.val (.int i1), .val (.long j2), .second, .val (.long j3), .second, .val (.long j4), .second, .val (.long j5), .second, .val (.long (own_j2_6_0 j4)), .second] [(.ref b7)])) t → Steps p.tables e below (s₁.setTop (entryFrame m #[(.int i1), (.long j2), (.long j3), (.long j4), (.long j5)] 11)) t := by
    intro t k
    refine pre6 _ ?_
    show Steps p.tables e below (T6.setTop (mkF m 20 #[.val (.int i1), .val (.long j2), .second, .val (.long j3), .second, .val (.long j4), .second, .val (.long j5), .second, .unset, .unset] [(.long (own_j2_6_0 j4))])) _
    refine XS.lstore X6.here hx rfl (hb hby d2_20) rfl (l' := #[.val (.int i1), .val (.long j2), .second, .val (.long j3), .second, .val (.long j4), .second, .val (.long j5), .second, .val (.long (own_j2_6_0 j4)), .second]) rfl ?_
    show Steps p.tables e below (T6.setTop (mkF m 22 #[.val (.int i1), .val (.long j2), .second, .val (.long j3), .second, .val (.long j4), .second, .val (.long j5), .second, .val (.long (own_j2_6_0 j4)), .second] [])) _
    refine st7 _ ?_
    show Steps p.tables e below (T7.setTop (mkF m 25 #[.val (.int i1), .val (.long j2), .second, .val (.long j3), .second, .val (.long j4), .second, .val (.long j5), .second, .val (.long (own_j2_6_0 j4)), .second] [(.ref b7)])) _
    refine XS.dup X7.here hx rfl (hb hby d2_25) rfl rfl ?_
    show Steps p.tables e below (T7.setTop (mkF m 26 #[.val (.int i1), .val (.long j2), .second, .val (.long j3), .second, .val (.long j4), .second, .val (.long j5), .second, .val (.long (own_j2_6_0 j4)), .second] [(.ref b7), (.ref b7)])) _
    refine XS.iloadN X7.here hx rfl (hb hby d2_26) rfl ?_
    show Steps p.tables e below (T7.setTop (mkF m 27 #[.val (.int i1), .val (.long j2), .second, .val (.long j3), .second, .val (.long j4), .second, .val (.long j5), .second, .val (.long (own_j2_6_0 j4)), .second] [(.int i1), (.ref b7), (.ref b7)])) _
    refine XS.lloadN X7.here hx rfl (hb hby d2_27) rfl ?_
    show Steps p.tables e below (T7.setTop (mkF m 28 #[.val (.int i1), .val (.long j2), .second, .val (.long j3), .second, .val (.long j4), .second, .val (.long j5), .second, .val (.long (own_j2_6_0 j4)), .second] [(.long j2), (.int i1), (.ref b7), (.ref b7)])) _
    refine XS.lloadN X7.here hx rfl (hb hby d2_28) rfl ?_
    show Steps p.tables e below (T7.setTop (mkF m 29 #[.val (.int i1), .val (.long j2), .second, .val (.long j3), .second, .val (.long j4), .second, .val (.long j5), .second, .val (.long (own_j2_6_0 j4)), .second] [(.long j3), (.long j2), (.int i1), (.ref b7), (.ref b7)])) _
    refine XS.lload X7.here hx rfl (hb hby d2_29) rfl ?_
    show Steps p.tables e below (T7.setTop (mkF m 31 #[.val (.int i1), .val (.long j2), .second, .val (.long j3), .second, .val (.long j4), .second, .val (.long j5), .second, .val (.long (own_j2_6_0 j4)), .second] [(.long (own_j2_6_0 j4)), (.long j3), (.long j2), (.int i1), (.ref b7), (.ref b7)])) _
    refine XS.lload X7.here hx rfl (hb hby d2_31) rfl ?_
    show Steps p.tables e below (T7.setTop (mkF m 33 #[.val (.int i1), .val (.long j2), .second, .val (.long j3), .second, .val (.long j4), .second, .val (.long j5), .second, .val (.long (own_j2_6_0 j4)), .second] [(.long j5), (.long (own_j2_6_0 j4)), (.long j3), (.long j2), (.int i1), (.ref b7), (.ref b7)])) _
    refine st9 _ ?_
    show Steps p.tables e below (T9.setTop (mkF m 36 #[.val (.int i1), .val (.long j2), .second, .val (.long j3), .second, .val (.long j4), .second, .val (.long j5), .second, .val (.long (own_j2_6_0 j4)), .second] [(.long (-(own_r4 (-j5) (1000 : Int64)))), (.long (own_j2_6_0 j4)), (.long j3), (.long j2), (.int i1), (.ref b7), (.ref b7)])) _
    refine st10.trans ?_
    exact k
  obtain ⟨fs, hr, hrun, hended, hW, hsame⟩ := X10.leave (v := some (.ref b7)) (fun h => by rw [Bd.returns] at h; cases h)
  refine ⟨_, _, pre12 _ ?_, hrun, hended, _, _, rfl, ?_, ⟨_, rfl⟩, hW, hsame.mono (by decide) (by decide)⟩
  · show Steps p.tables e below (T10.setTop (mkF m 39 #[.val (.int i1), .val (.long j2), .second, .val (.long j3), .second, .val (.long j4), .second, .val (.long j5), .second, .val (.long (own_j2_6_0 j4)), .second] [(.ref b7)])) _
    jvm_step X10.here [X10.here.top, hx, (hb hby d2_39), X10.method', Bd.returns, Value.isRef, FieldType.isReference]
    first | (intro acts; rw [hr _ acts rfl rfl rfl]) | rw [hr _ _ rfl rfl rfl]
    exact Steps.refl _
  · show Q2 Z i1 j2 j3 j4 j5 h0 n0 _ T10.heap _
    exact ⟨b7, rfl, N10, K11, sz_b7, f10_0, f10_1, f10_2, f10_3, f10_4, f10_5, f10_6⟩
def Q9 (Z : State) (r0 : Addr) (w_allowed_r0 : Int32) (h0 : Heap) (n0 : Nat) (v : Option Value) (h : Heap) (L : List Loc) : Prop := v = some (.int (nar .boolean w_allowed_r0)) ∧ Fr n0 L ∧ h = h0
theorem ef_9 (m : MethodId) (x0 : Addr) : entryFrame m #[(.ref x0)] 1 = mkF m 0 #[.val (.ref x0)] [] := by first | (simp [entryFrame, mkF, argsToLocals, Value.category]; done) | rfl
set_option maxRecDepth 65536 in
set_option maxHeartbeats 40000000 in
theorem rm9 (l : Launch) (Z : State) (a0 : Array Value) (hw : ∀ d ∈ tables_1, d.before a0 Z = true) (ws : List Jvm.Cond) (r0 : Addr) (w_allowed_r0 : Int32) (h0 : Heap) (n0 : Nat) (Z0 : n0 ≤ h0.size) (F_allowed_r0 : Fld Z h0 r0 "com/example/burst/burst/Decision" "allowed" "Z" (.int w_allowed_r0)) :
    MetFree l (⟨"com/example/burst/burst/Decision", "allowed", "()Z"⟩ : MethodName) (head1 (Jvm.Cond.code (⟨"com/example/burst/burst/Decision", "allowed", "()Z"⟩ : MethodName) prog_3_method_10_code 1 (some .boolean) :: ws) ({ frames := 0, cells := 0, slots := 0, locals := 0 } : Room)) (fun a U => a = #[(.ref r0)] ∧ Z.Warmed39 U.vm ∧ U.heap = h0) (fun _ _ _ _ _ => True) (fun _ U o U' => ∃ v L, o = .returned v ∧ Q9 Z r0 w_allowed_r0 h0 n0 v U'.heap L ∧ FrameEnd U o U' L ({ frames := 0, cells := 0, slots := 0, locals := 0 } : Room).cells ({ frames := 0, cells := 0, slots := 0, locals := 0 } : Room).slots) := by
  refine MetFree.of_bodySF (plainFor_of_name pn_3) hisR ?_
  intro p e s m args below meth c s₁ Bd hml0 hP hK
  obtain ⟨rfl, hZ, hh⟩ := hP
  have hx := Bd.exec
  have hby := Bd.bytes
  have hml : c.maxLocals = 1 := hml0
  have hown : s.vm.findClass "com/example/burst/burst/Decision" = some m.cls := findClass_of_methodNamed Bd.named
  have hnm := (name_of_methodNamed Bd.named Bd.method).1
  have X0 : Stand p l e ({ frames := 0, cells := 0, slots := 0, locals := 0 } : Room) s m #[(.ref r0)] below meth c s₁ [] 0 0 := Stand.of_body Bd
  have e0 : s₁.heap = h0 := by rw [← hh, Bd.state]; rfl
  have N0 := Fr.nil n0
  have pre0 : ∀ t, Steps p.tables e below (s₁.setTop (mkF m 0 #[.val (.ref r0)] [])) t → Steps p.tables e below (s₁.setTop (entryFrame m #[(.ref r0)] 1)) t := fun t k => castTop (ef_9 m r0) k
  obtain ⟨T1, X1, e1, st1⟩ := getF X0 hx hZ hown (host := "") (Or.inl (hw _ (List.mem_of_getElem? (i := 38) rfl))) Via.refl e0 F_allowed_r0 (g := (mkF m 1 #[.val (.ref r0)] [(.ref r0)])) rfl rfl (hb hby d9_1)
  have pre2 : ∀ t, Steps p.tables e below (T1.setTop (mkF m 4 #[.val (.ref r0)] [(.int w_allowed_r0)])) t → Steps p.tables e below (s₁.setTop (entryFrame m #[(.ref r0)] 1)) t := by
    intro t k
    refine pre0 _ ?_
    show Steps p.tables e below (s₁.setTop (mkF m 0 #[.val (.ref r0)] [])) _
    refine XS.aloadN X0.here hx rfl (hb hby d9_0) rfl rfl ?_
    show Steps p.tables e below (s₁.setTop (mkF m 1 #[.val (.ref r0)] [(.ref r0)])) _
    refine st1 _ ?_
    exact k
  obtain ⟨fs, hr, hrun, hended, hW, hsame⟩ := X1.leave (v := some (.int (nar .boolean w_allowed_r0))) (fun h => by rw [Bd.returns] at h; cases h)
  refine ⟨_, _, pre2 _ ?_, hrun, hended, _, _, rfl, ?_, ⟨_, rfl⟩, hW, hsame.mono (by decide) (by decide)⟩
  · show Steps p.tables e below (T1.setTop (mkF m 4 #[.val (.ref r0)] [(.int w_allowed_r0)])) _
    exact retN X1 hx (t := .boolean) Bd.returns (by simp) (hb hby d9_4) hr
  · show Q9 Z r0 w_allowed_r0 h0 n0 _ T1.heap _
    rw [e1]
    exact ⟨rfl, N0, rfl⟩
def Q10 (Z : State) (r0 : Addr) (w_limit_r0 : Int64) (h0 : Heap) (n0 : Nat) (v : Option Value) (h : Heap) (L : List Loc) : Prop := v = some (.long w_limit_r0) ∧ Fr n0 L ∧ h = h0
theorem ef_10 (m : MethodId) (x0 : Addr) : entryFrame m #[(.ref x0)] 1 = mkF m 0 #[.val (.ref x0)] [] := by first | (simp [entryFrame, mkF, argsToLocals, Value.category]; done) | rfl
set_option maxRecDepth 65536 in
set_option maxHeartbeats 40000000 in
theorem rm10 (l : Launch) (Z : State) (a0 : Array Value) (hw : ∀ d ∈ tables_1, d.before a0 Z = true) (ws : List Jvm.Cond) (r0 : Addr) (w_limit_r0 : Int64) (h0 : Heap) (n0 : Nat) (Z0 : n0 ≤ h0.size) (F_limit_r0 : Fld Z h0 r0 "com/example/burst/burst/Decision" "limit" "J" (.long w_limit_r0)) :
    MetFree l (⟨"com/example/burst/burst/Decision", "limit", "()J"⟩ : MethodName) (head1 (Jvm.Cond.code (⟨"com/example/burst/burst/Decision", "limit", "()J"⟩ : MethodName) prog_3_method_11_code 1 (some .long) :: ws) ({ frames := 0, cells := 0, slots := 0, locals := 0 } : Room)) (fun a U => a = #[(.ref r0)] ∧ Z.Warmed39 U.vm ∧ U.heap = h0) (fun _ _ _ _ _ => True) (fun _ U o U' => ∃ v L, o = .returned v ∧ Q10 Z r0 w_limit_r0 h0 n0 v U'.heap L ∧ FrameEnd U o U' L ({ frames := 0, cells := 0, slots := 0, locals := 0 } : Room).cells ({ frames := 0, cells := 0, slots := 0, locals := 0 } : Room).slots) := by
  refine MetFree.of_bodySF (plainFor_of_name pn_3) hisR ?_
  intro p e s m args below meth c s₁ Bd hml0 hP hK
  obtain ⟨rfl, hZ, hh⟩ := hP
  have hx := Bd.exec
  have hby := Bd.bytes
  have hml : c.maxLocals = 1 := hml0
  have hown : s.vm.findClass "com/example/burst/burst/Decision" = some m.cls := findClass_of_methodNamed Bd.named
  have hnm := (name_of_methodNamed Bd.named Bd.method).1
  have X0 : Stand p l e ({ frames := 0, cells := 0, slots := 0, locals := 0 } : Room) s m #[(.ref r0)] below meth c s₁ [] 0 0 := Stand.of_body Bd
  have e0 : s₁.heap = h0 := by rw [← hh, Bd.state]; rfl
  have N0 := Fr.nil n0
  have pre0 : ∀ t, Steps p.tables e below (s₁.setTop (mkF m 0 #[.val (.ref r0)] [])) t → Steps p.tables e below (s₁.setTop (entryFrame m #[(.ref r0)] 1)) t := fun t k => castTop (ef_10 m r0) k
  obtain ⟨T1, X1, e1, st1⟩ := getF X0 hx hZ hown (host := "") (Or.inl (hw _ (List.mem_of_getElem? (i := 40) rfl))) Via.refl e0 F_limit_r0 (g := (mkF m 1 #[.val (.ref r0)] [(.ref r0)])) rfl rfl (hb hby d10_1)
  have pre2 : ∀ t, Steps p.tables e below (T1.setTop (mkF m 4 #[.val (.ref r0)] [(.long w_limit_r0)])) t → Steps p.tables e below (s₁.setTop (entryFrame m #[(.ref r0)] 1)) t := by
    intro t k
    refine pre0 _ ?_
    show Steps p.tables e below (s₁.setTop (mkF m 0 #[.val (.ref r0)] [])) _
    refine XS.aloadN X0.here hx rfl (hb hby d10_0) rfl rfl ?_
    show Steps p.tables e below (s₁.setTop (mkF m 1 #[.val (.ref r0)] [(.ref r0)])) _
    refine st1 _ ?_
    exact k
  obtain ⟨fs, hr, hrun, hended, hW, hsame⟩ := X1.leave (v := some (.long w_limit_r0)) (fun h => by rw [Bd.returns] at h; cases h)
  refine ⟨_, _, pre2 _ ?_, hrun, hended, _, _, rfl, ?_, ⟨_, rfl⟩, hW, hsame.mono (by decide) (by decide)⟩
  · show Steps p.tables e below (T1.setTop (mkF m 4 #[.val (.ref r0)] [(.long w_limit_r0)])) _
    jvm_step X1.here [X1.here.top, hx, (hb hby d10_4), X1.method', Bd.returns, narrow]
    first | (intro acts; rw [hr _ acts rfl rfl rfl]) | rw [hr _ _ rfl rfl rfl]
    exact Steps.refl _
  · show Q10 Z r0 w_limit_r0 h0 n0 _ T1.heap _
    rw [e1]
    exact ⟨rfl, N0, rfl⟩
def Q11 (Z : State) (r0 : Addr) (w_remaining_r0 : Int64) (h0 : Heap) (n0 : Nat) (v : Option Value) (h : Heap) (L : List Loc) : Prop := v = some (.long w_remaining_r0) ∧ Fr n0 L ∧ h = h0
theorem ef_11 (m : MethodId) (x0 : Addr) : entryFrame m #[(.ref x0)] 1 = mkF m 0 #[.val (.ref x0)] [] := by first | (simp [entryFrame, mkF, argsToLocals, Value.category]; done) | rfl
set_option maxRecDepth 65536 in
set_option maxHeartbeats 40000000 in
theorem rm11 (l : Launch) (Z : State) (a0 : Array Value) (hw : ∀ d ∈ tables_1, d.before a0 Z = true) (ws : List Jvm.Cond) (r0 : Addr) (w_remaining_r0 : Int64) (h0 : Heap) (n0 : Nat) (Z0 : n0 ≤ h0.size) (F_remaining_r0 : Fld Z h0 r0 "com/example/burst/burst/Decision" "remaining" "J" (.long w_remaining_r0)) :
    MetFree l (⟨"com/example/burst/burst/Decision", "remaining", "()J"⟩ : MethodName) (head1 (Jvm.Cond.code (⟨"com/example/burst/burst/Decision", "remaining", "()J"⟩ : MethodName) prog_3_method_12_code 1 (some .long) :: ws) ({ frames := 0, cells := 0, slots := 0, locals := 0 } : Room)) (fun a U => a = #[(.ref r0)] ∧ Z.Warmed39 U.vm ∧ U.heap = h0) (fun _ _ _ _ _ => True) (fun _ U o U' => ∃ v L, o = .returned v ∧ Q11 Z r0 w_remaining_r0 h0 n0 v U'.heap L ∧ FrameEnd U o U' L ({ frames := 0, cells := 0, slots := 0, locals := 0 } : Room).cells ({ frames := 0, cells := 0, slots := 0, locals := 0 } : Room).slots) := by
  refine MetFree.of_bodySF (plainFor_of_name pn_3) hisR ?_
  intro p e s m args below meth c s₁ Bd hml0 hP hK
  obtain ⟨rfl, hZ, hh⟩ := hP
  have hx := Bd.exec
  have hby := Bd.bytes
  have hml : c.maxLocals = 1 := hml0
  have hown : s.vm.findClass "com/example/burst/burst/Decision" = some m.cls := findClass_of_methodNamed Bd.named
  have hnm := (name_of_methodNamed Bd.named Bd.method).1
  have X0 : Stand p l e ({ frames := 0, cells := 0, slots := 0, locals := 0 } : Room) s m #[(.ref r0)] below meth c s₁ [] 0 0 := Stand.of_body Bd
  have e0 : s₁.heap = h0 := by rw [← hh, Bd.state]; rfl
  have N0 := Fr.nil n0
  have pre0 : ∀ t, Steps p.tables e below (s₁.setTop (mkF m 0 #[.val (.ref r0)] [])) t → Steps p.tables e below (s₁.setTop (entryFrame m #[(.ref r0)] 1)) t := fun t k => castTop (ef_11 m r0) k
  obtain ⟨T1, X1, e1, st1⟩ := getF X0 hx hZ hown (host := "") (Or.inl (hw _ (List.mem_of_getElem? (i := 42) rfl))) Via.refl e0 F_remaining_r0 (g := (mkF m 1 #[.val (.ref r0)] [(.ref r0)])) rfl rfl (hb hby d11_1)
  have pre2 : ∀ t, Steps p.tables e below (T1.setTop (mkF m 4 #[.val (.ref r0)] [(.long w_remaining_r0)])) t → Steps p.tables e below (s₁.setTop (entryFrame m #[(.ref r0)] 1)) t := by
    intro t k
    refine pre0 _ ?_
    show Steps p.tables e below (s₁.setTop (mkF m 0 #[.val (.ref r0)] [])) _
    refine XS.aloadN X0.here hx rfl (hb hby d11_0) rfl rfl ?_
    show Steps p.tables e below (s₁.setTop (mkF m 1 #[.val (.ref r0)] [(.ref r0)])) _
    refine st1 _ ?_
    exact k
  obtain ⟨fs, hr, hrun, hended, hW, hsame⟩ := X1.leave (v := some (.long w_remaining_r0)) (fun h => by rw [Bd.returns] at h; cases h)
  refine ⟨_, _, pre2 _ ?_, hrun, hended, _, _, rfl, ?_, ⟨_, rfl⟩, hW, hsame.mono (by decide) (by decide)⟩
  · show Steps p.tables e below (T1.setTop (mkF m 4 #[.val (.ref r0)] [(.long w_remaining_r0)])) _
    jvm_step X1.here [X1.here.top, hx, (hb hby d11_4), X1.method', Bd.returns, narrow]
    first | (intro acts; rw [hr _ acts rfl rfl rfl]) | rw [hr _ _ rfl rfl rfl]
    exact Steps.refl _
  · show Q11 Z r0 w_remaining_r0 h0 n0 _ T1.heap _
    rw [e1]
    exact ⟨rfl, N0, rfl⟩
def Q12 (Z : State) (r0 : Addr) (w_retryAfterMillis_r0 : Int64) (h0 : Heap) (n0 : Nat) (v : Option Value) (h : Heap) (L : List Loc) : Prop := v = some (.long w_retryAfterMillis_r0) ∧ Fr n0 L ∧ h = h0
theorem ef_12 (m : MethodId) (x0 : Addr) : entryFrame m #[(.ref x0)] 1 = mkF m 0 #[.val (.ref x0)] [] := by first | (simp [entryFrame, mkF, argsToLocals, Value.category]; done) | rfl
set_option maxRecDepth 65536 in
set_option maxHeartbeats 40000000 in
theorem rm12 (l : Launch) (Z : State) (a0 : Array Value) (hw : ∀ d ∈ tables_1, d.before a0 Z = true) (ws : List Jvm.Cond) (r0 : Addr) (w_retryAfterMillis_r0 : Int64) (h0 : Heap) (n0 : Nat) (Z0 : n0 ≤ h0.size) (F_retryAfterMillis_r0 : Fld Z h0 r0 "com/example/burst/burst/Decision" "retryAfterMillis" "J" (.long w_retryAfterMillis_r0)) :
    MetFree l (⟨"com/example/burst/burst/Decision", "retryAfterMillis", "()J"⟩ : MethodName) (head1 (Jvm.Cond.code (⟨"com/example/burst/burst/Decision", "retryAfterMillis", "()J"⟩ : MethodName) prog_3_method_13_code 1 (some .long) :: ws) ({ frames := 0, cells := 0, slots := 0, locals := 0 } : Room)) (fun a U => a = #[(.ref r0)] ∧ Z.Warmed39 U.vm ∧ U.heap = h0) (fun _ _ _ _ _ => True) (fun _ U o U' => ∃ v L, o = .returned v ∧ Q12 Z r0 w_retryAfterMillis_r0 h0 n0 v U'.heap L ∧ FrameEnd U o U' L ({ frames := 0, cells := 0, slots := 0, locals := 0 } : Room).cells ({ frames := 0, cells := 0, slots := 0, locals := 0 } : Room).slots) := by
  refine MetFree.of_bodySF (plainFor_of_name pn_3) hisR ?_
  intro p e s m args below meth c s₁ Bd hml0 hP hK
  obtain ⟨rfl, hZ, hh⟩ := hP
  have hx := Bd.exec
  have hby := Bd.bytes
  have hml : c.maxLocals = 1 := hml0
  have hown : s.vm.findClass "com/example/burst/burst/Decision" = some m.cls := findClass_of_methodNamed Bd.named
  have hnm := (name_of_methodNamed Bd.named Bd.method).1
  have X0 : Stand p l e ({ frames := 0, cells := 0, slots := 0, locals := 0 } : Room) s m #[(.ref r0)] below meth c s₁ [] 0 0 := Stand.of_body Bd
  have e0 : s₁.heap = h0 := by rw [← hh, Bd.state]; rfl
  have N0 := Fr.nil n0
  have pre0 : ∀ t, Steps p.tables e below (s₁.setTop (mkF m 0 #[.val (.ref r0)] [])) t → Steps p.tables e below (s₁.setTop (entryFrame m #[(.ref r0)] 1)) t := fun t k => castTop (ef_12 m r0) k
  obtain ⟨T1, X1, e1, st1⟩ := getF X0 hx hZ hown (host := "") (Or.inl (hw _ (List.mem_of_getElem? (i := 44) rfl))) Via.refl e0 F_retryAfterMillis_r0 (g := (mkF m 1 #[.val (.ref r0)] [(.ref r0)])) rfl rfl (hb hby d12_1)
  have pre2 : ∀ t, Steps p.tables e below (T1.setTop (mkF m 4 #[.val (.ref r0)] [(.long w_retryAfterMillis_r0)])) t → Steps p.tables e below (s₁.setTop (entryFrame m #[(.ref r0)] 1)) t := by
    intro t k
    refine pre0 _ ?_
    show Steps p.tables e below (s₁.setTop (mkF m 0 #[.val (.ref r0)] [])) _
    refine XS.aloadN X0.here hx rfl (hb hby d12_0) rfl rfl ?_
    show Steps p.tables e below (s₁.setTop (mkF m 1 #[.val (.ref r0)] [(.ref r0)])) _
    refine st1 _ ?_
    exact k
  obtain ⟨fs, hr, hrun, hended, hW, hsame⟩ := X1.leave (v := some (.long w_retryAfterMillis_r0)) (fun h => by rw [Bd.returns] at h; cases h)
  refine ⟨_, _, pre2 _ ?_, hrun, hended, _, _, rfl, ?_, ⟨_, rfl⟩, hW, hsame.mono (by decide) (by decide)⟩
  · show Steps p.tables e below (T1.setTop (mkF m 4 #[.val (.ref r0)] [(.long w_retryAfterMillis_r0)])) _
    jvm_step X1.here [X1.here.top, hx, (hb hby d12_4), X1.method', Bd.returns, narrow]
    first | (intro acts; rw [hr _ acts rfl rfl rfl]) | rw [hr _ _ rfl rfl rfl]
    exact Steps.refl _
  · show Q12 Z r0 w_retryAfterMillis_r0 h0 n0 _ T1.heap _
    rw [e1]
    exact ⟨rfl, N0, rfl⟩
def Q13 (Z : State) (r0 : Addr) (w_resetAfterMillis_r0 : Int64) (h0 : Heap) (n0 : Nat) (v : Option Value) (h : Heap) (L : List Loc) : Prop := v = some (.long w_resetAfterMillis_r0) ∧ Fr n0 L ∧ h = h0
theorem ef_13 (m : MethodId) (x0 : Addr) : entryFrame m #[(.ref x0)] 1 = mkF m 0 #[.val (.ref x0)] [] := by first | (simp [entryFrame, mkF, argsToLocals, Value.category]; done) | rfl
set_option maxRecDepth 65536 in
set_option maxHeartbeats 40000000 in
theorem rm13 (l : Launch) (Z : State) (a0 : Array Value) (hw : ∀ d ∈ tables_1, d.before a0 Z = true) (ws : List Jvm.Cond) (r0 : Addr) (w_resetAfterMillis_r0 : Int64) (h0 : Heap) (n0 : Nat) (Z0 : n0 ≤ h0.size) (F_resetAfterMillis_r0 : Fld Z h0 r0 "com/example/burst/burst/Decision" "resetAfterMillis" "J" (.long w_resetAfterMillis_r0)) :
    MetFree l (⟨"com/example/burst/burst/Decision", "resetAfterMillis", "()J"⟩ : MethodName) (head1 (Jvm.Cond.code (⟨"com/example/burst/burst/Decision", "resetAfterMillis", "()J"⟩ : MethodName) prog_3_method_14_code 1 (some .long) :: ws) ({ frames := 0, cells := 0, slots := 0, locals := 0 } : Room)) (fun a U => a = #[(.ref r0)] ∧ Z.Warmed39 U.vm ∧ U.heap = h0) (fun _ _ _ _ _ => True) (fun _ U o U' => ∃ v L, o = .returned v ∧ Q13 Z r0 w_resetAfterMillis_r0 h0 n0 v U'.heap L ∧ FrameEnd U o U' L ({ frames := 0, cells := 0, slots := 0, locals := 0 } : Room).cells ({ frames := 0, cells := 0, slots := 0, locals := 0 } : Room).slots) := by
  refine MetFree.of_bodySF (plainFor_of_name pn_3) hisR ?_
  intro p e s m args below meth c s₁ Bd hml0 hP hK
  obtain ⟨rfl, hZ, hh⟩ := hP
  have hx := Bd.exec
  have hby := Bd.bytes
  have hml : c.maxLocals = 1 := hml0
  have hown : s.vm.findClass "com/example/burst/burst/Decision" = some m.cls := findClass_of_methodNamed Bd.named
  have hnm := (name_of_methodNamed Bd.named Bd.method).1
  have X0 : Stand p l e ({ frames := 0, cells := 0, slots := 0, locals := 0 } : Room) s m #[(.ref r0)] below meth c s₁ [] 0 0 := Stand.of_body Bd
  have e0 : s₁.heap = h0 := by rw [← hh, Bd.state]; rfl
  have N0 := Fr.nil n0
  have pre0 : ∀ t, Steps p.tables e below (s₁.setTop (mkF m 0 #[.val (.ref r0)] [])) t → Steps p.tables e below (s₁.setTop (entryFrame m #[(.ref r0)] 1)) t := fun t k => castTop (ef_13 m r0) k
  obtain ⟨T1, X1, e1, st1⟩ := getF X0 hx hZ hown (host := "") (Or.inl (hw _ (List.mem_of_getElem? (i := 46) rfl))) Via.refl e0 F_resetAfterMillis_r0 (g := (mkF m 1 #[.val (.ref r0)] [(.ref r0)])) rfl rfl (hb hby d13_1)
  have pre2 : ∀ t, Steps p.tables e below (T1.setTop (mkF m 4 #[.val (.ref r0)] [(.long w_resetAfterMillis_r0)])) t → Steps p.tables e below (s₁.setTop (entryFrame m #[(.ref r0)] 1)) t := by
    intro t k
    refine pre0 _ ?_
    show Steps p.tables e below (s₁.setTop (mkF m 0 #[.val (.ref r0)] [])) _
    refine XS.aloadN X0.here hx rfl (hb hby d13_0) rfl rfl ?_
    show Steps p.tables e below (s₁.setTop (mkF m 1 #[.val (.ref r0)] [(.ref r0)])) _
    refine st1 _ ?_
    exact k
  obtain ⟨fs, hr, hrun, hended, hW, hsame⟩ := X1.leave (v := some (.long w_resetAfterMillis_r0)) (fun h => by rw [Bd.returns] at h; cases h)
  refine ⟨_, _, pre2 _ ?_, hrun, hended, _, _, rfl, ?_, ⟨_, rfl⟩, hW, hsame.mono (by decide) (by decide)⟩
  · show Steps p.tables e below (T1.setTop (mkF m 4 #[.val (.ref r0)] [(.long w_resetAfterMillis_r0)])) _
    jvm_step X1.here [X1.here.top, hx, (hb hby d13_4), X1.method', Bd.returns, narrow]
    first | (intro acts; rw [hr _ acts rfl rfl rfl]) | rw [hr _ _ rfl rfl rfl]
    exact Steps.refl _
  · show Q13 Z r0 w_resetAfterMillis_r0 h0 n0 _ T1.heap _
    rw [e1]
    exact ⟨rfl, N0, rfl⟩
def Q14 (Z : State) (r0 : Addr) (w_degraded_r0 : Int32) (h0 : Heap) (n0 : Nat) (v : Option Value) (h : Heap) (L : List Loc) : Prop := v = some (.int (nar .boolean w_degraded_r0)) ∧ Fr n0 L ∧ h = h0
theorem ef_14 (m : MethodId) (x0 : Addr) : entryFrame m #[(.ref x0)] 1 = mkF m 0 #[.val (.ref x0)] [] := by first | (simp [entryFrame, mkF, argsToLocals, Value.category]; done) | rfl
set_option maxRecDepth 65536 in
set_option maxHeartbeats 40000000 in
theorem rm14 (l : Launch) (Z : State) (a0 : Array Value) (hw : ∀ d ∈ tables_1, d.before a0 Z = true) (ws : List Jvm.Cond) (r0 : Addr) (w_degraded_r0 : Int32) (h0 : Heap) (n0 : Nat) (Z0 : n0 ≤ h0.size) (F_degraded_r0 : Fld Z h0 r0 "com/example/burst/burst/Decision" "degraded" "Z" (.int w_degraded_r0)) :
    MetFree l (⟨"com/example/burst/burst/Decision", "degraded", "()Z"⟩ : MethodName) (head1 (Jvm.Cond.code (⟨"com/example/burst/burst/Decision", "degraded", "()Z"⟩ : MethodName) prog_3_method_15_code 1 (some .boolean) :: ws) ({ frames := 0, cells := 0, slots := 0, locals := 0 } : Room)) (fun a U => a = #[(.ref r0)] ∧ Z.Warmed39 U.vm ∧ U.heap = h0) (fun _ _ _ _ _ => True) (fun _ U o U' => ∃ v L, o = .returned v ∧ Q14 Z r0 w_degraded_r0 h0 n0 v U'.heap L ∧ FrameEnd U o U' L ({ frames := 0, cells := 0, slots := 0, locals := 0 } : Room).cells ({ frames := 0, cells := 0, slots := 0, locals := 0 } : Room).slots) := by
  refine MetFree.of_bodySF (plainFor_of_name pn_3) hisR ?_
  intro p e s m args below meth c s₁ Bd hml0 hP hK
  obtain ⟨rfl, hZ, hh⟩ := hP
  have hx := Bd.exec
  have hby := Bd.bytes
  have hml : c.maxLocals = 1 := hml0
  have hown : s.vm.findClass "com/example/burst/burst/Decision" = some m.cls := findClass_of_methodNamed Bd.named
  have hnm := (name_of_methodNamed Bd.named Bd.method).1
  have X0 : Stand p l e ({ frames := 0, cells := 0, slots := 0, locals := 0 } : Room) s m #[(.ref r0)] below meth c s₁ [] 0 0 := Stand.of_body Bd
  have e0 : s₁.heap = h0 := by rw [← hh, Bd.state]; rfl
  have N0 := Fr.nil n0
  have pre0 : ∀ t, Steps p.tables e below (s₁.setTop (mkF m 0 #[.val (.ref r0)] [])) t → Steps p.tables e below (s₁.setTop (entryFrame m #[(.ref r0)] 1)) t := fun t k => castTop (ef_14 m r0) k
  obtain ⟨T1, X1, e1, st1⟩ := getF X0 hx hZ hown (host := "") (Or.inl (hw _ (List.mem_of_getElem? (i := 48) rfl))) Via.refl e0 F_degraded_r0 (g := (mkF m 1 #[.val (.ref r0)] [(.ref r0)])) rfl rfl (hb hby d14_1)
  have pre2 : ∀ t, Steps p.tables e below (T1.setTop (mkF m 4 #[.val (.ref r0)] [(.int w_degraded_r0)])) t → Steps p.tables e below (s₁.setTop (entryFrame m #[(.ref r0)] 1)) t := by
    intro t k
    refine pre0 _ ?_
    show Steps p.tables e below (s₁.setTop (mkF m 0 #[.val (.ref r0)] [])) _
    refine XS.aloadN X0.here hx rfl (hb hby d14_0) rfl rfl ?_
    show Steps p.tables e below (s₁.setTop (mkF m 1 #[.val (.ref r0)] [(.ref r0)])) _
    refine st1 _ ?_
    exact k
  obtain ⟨fs, hr, hrun, hended, hW, hsame⟩ := X1.leave (v := some (.int (nar .boolean w_degraded_r0))) (fun h => by rw [Bd.returns] at h; cases h)
  refine ⟨_, _, pre2 _ ?_, hrun, hended, _, _, rfl, ?_, ⟨_, rfl⟩, hW, hsame.mono (by decide) (by decide)⟩
  · show Steps p.tables e below (T1.setTop (mkF m 4 #[.val (.ref r0)] [(.int w_degraded_r0)])) _
    exact retN X1 hx (t := .boolean) Bd.returns (by simp) (hb hby d14_4) hr
  · show Q14 Z r0 w_degraded_r0 h0 n0 _ T1.heap _
    rw [e1]
    exact ⟨rfl, N0, rfl⟩
def own_j0_3_0 (i1 : Int32) : Int32 := (if (i1 &&& (1 : Int32)) = (0 : Int32) then (0 : Int32) else (1 : Int32))
def own_j0_16_0 (i1 : Int32) : Int32 := (if (i1 &&& (2 : Int32)) = (0 : Int32) then (0 : Int32) else (1 : Int32))
def own_j0_45_0 (j2 : Int64) (j3 : Int64) : Int64 := (if (j2 &&& (9223372036854775807 : Int64)) < (j3 &&& (9223372036854775807 : Int64)) then ((j3 &&& (9223372036854775807 : Int64)) - ((j3 &&& (9223372036854775807 : Int64)) / ((j2 &&& (9223372036854775807 : Int64)) + (1 : Int64))) * ((j2 &&& (9223372036854775807 : Int64)) + (1 : Int64))) else (j3 &&& (9223372036854775807 : Int64)))
def own_j0_66_0 (i1 : Int32) (j4 : Int64) : Int64 := (if (own_j0_3_0 i1) = (0 : Int32) then (if (own_j0_16_0 i1) = (0 : Int32) then (j4 &&& (9223372036854775807 : Int64)) else (-1 : Int64)) else (-1 : Int64))
def own_j0_104_0 (i1 : Int32) (j4 : Int64) : Int64 := (if (own_j0_66_0 i1 j4) = (-1 : Int64) then (-1 : Int64) else (own_r1 (own_j0_66_0 i1 j4)))
def own_j0_151_0 (i1 : Int32) (j4 : Int64) (j5 : Int64) : Int32 := (if (nar .boolean (nar .boolean (own_j0_3_0 i1))) = (own_j0_3_0 i1) then (if (own_j2_6_0 (own_j0_66_0 i1 j4)) = (own_j0_104_0 i1 j4) then (if (-(own_r4 (-(j5 &&& (9223372036854775807 : Int64))) (1000 : Int64))) = (own_r1 (j5 &&& (9223372036854775807 : Int64))) then (if (nar .boolean (nar .boolean (0 : Int32))) = (0 : Int32) then (1 : Int32) else (0 : Int32)) else (0 : Int32)) else (0 : Int32)) else (0 : Int32))
theorem own_ob0_nz61 (j2 : Int64) : ¬ (((j2 &&& (9223372036854775807 : Int64)) + (1 : Int64)) = (0 : Int64)) := by
  have h := own_m63 j2
  generalize (j2 &&& (9223372036854775807 : Int64)) = a at *
  rw [← Int64.toInt_inj]
  have h1 := c_ladd a 1
  have h2 := rng64 a
  have k : (1 : Int64).toInt = 1 := by decide
  have k0 : (0 : Int64).toInt = 0 := by decide
  omega
theorem own_45 (j2 j3 : Int64) : 0 ≤ (own_j0_45_0 j2 j3).toInt ∧ (own_j0_45_0 j2 j3).toInt ≤ (j2 &&& (9223372036854775807 : Int64)).toInt := by
  have h1 := own_m63 j2
  have h2 := own_m63 j3
  unfold own_j0_45_0
  generalize (j2 &&& (9223372036854775807 : Int64)) = a at *
  generalize (j3 &&& (9223372036854775807 : Int64)) = b at *
  by_cases q : a < b
  · rw [if_pos q, lrem_mod, Int64.toInt_mod]
    have q' := Int64.lt_iff_toInt_lt.mp q
    have h3 := c_ladd a 1
    have h4 := rng64 b
    have h5 := rng64 (a + 1)
    have k : (1 : Int64).toInt = 1 := by decide
    have e : (a + 1).toInt = a.toInt + 1 := by omega
    rw [e, Int.tmod_eq_emod_of_nonneg h2]
    have h6 := Int.emod_nonneg b.toInt (b := a.toInt + 1) (by omega)
    have h7 := Int.emod_lt_of_pos b.toInt (b := a.toInt + 1) (by omega)
    omega
  · rw [if_neg q]
    have q' := mt Int64.lt_iff_toInt_lt.mpr q
    omega
theorem own_ceil (m : Int64) (h : 0 ≤ m.toInt) : -(own_r4 (-m) 1000) = own_r1 m ∧ 0 ≤ (own_r1 m).toInt := by
  have k0 : (0 : Int64).toInt = 0 := by decide
  have k1 : (1 : Int64).toInt = 1 := by decide
  have kk : (1000 : Int64).toInt = 1000 := by decide
  have rm := rng64 m
  have n1 := c_lneg m
  have rn := rng64 (-m)
  have en : (-m).toInt = -m.toInt := by omega
  have d1 := (c_ldiv m 1000 1000 kk (by decide)).1 h
  have m1 := c_lrem m 1000 1000 kk
  have m2 := m1.1 h
  have d2 : ((-m) / 1000).toInt = -(m.toInt / 1000) := by
    have := c_ldiv (-m) 1000 1000 kk (by decide)
    by_cases q : m.toInt = 0
    · have := this.1 (by omega); rw [this]; omega
    · have := this.2 (by omega); rw [this, en, Int.neg_neg]
  have p1 := c_lmul ((-m) / 1000) 1000
  rw [kk, d2] at p1
  have rp := rng64 ((-m) / 1000 * 1000)
  have ep : ((-m) / 1000 * 1000).toInt = -(m.toInt / 1000) * 1000 := by omega
  have s1 := c_lsub ((-m) / 1000) 1
  have rs := rng64 ((-m) / 1000 - 1)
  have es : ((-m) / 1000 - 1).toInt = -(m.toInt / 1000) - 1 := by omega
  have a1 := c_ladd (m / 1000) 1
  have ra := rng64 (m / 1000 + 1)
  have ea : (m / 1000 + 1).toInt = m.toInt / 1000 + 1 := by omega
  have g1 := c_lneg ((-m) / 1000)
  have rg := rng64 (-((-m) / 1000))
  have g2 := c_lneg ((-m) / 1000 - 1)
  have rg2 := rng64 (-((-m) / 1000 - 1))
  have hx : ((-m) ^^^ 1000) < 0 ↔ 0 < m.toInt := by
    rw [Jvm.Free.XT.xor_neg64, Int64.lt_iff_toInt_lt, Int64.lt_iff_toInt_lt, en, k0, kk]
    omega
  have hq : ((-m) / 1000 * 1000 = -m) ↔ m.toInt % 1000 = 0 := by
    rw [← Int64.toInt_inj, ep, en]; omega
  have hr : (m - (m / 1000) * 1000 = 0) ↔ m.toInt % 1000 = 0 := by
    rw [← Int64.toInt_inj, m2, k0]
  unfold own_r4 own_r1
  by_cases z : m.toInt % 1000 = 0
  · rw [if_pos (hr.mpr z)]
    refine ⟨?_, by omega⟩
    rw [← Int64.toInt_inj]
    by_cases q : ((-m) ^^^ 1000) < 0
    · rw [if_pos q, if_pos (hq.mpr z)]; omega
    · rw [if_neg q]; omega
  · rw [if_neg (mt hr.mp z)]
    refine ⟨?_, by omega⟩
    rw [← Int64.toInt_inj, if_pos (hx.mpr (by omega)), if_neg (mt hq.mp z)]
    omega
theorem own_66 (i1 : Int32) (j4 : Int64) : own_j0_66_0 i1 j4 = -1 ∨ 0 ≤ (own_j0_66_0 i1 j4).toInt := by
  unfold own_j0_66_0
  split
  · split
    · exact Or.inr (own_m63 j4)
    · exact Or.inl rfl
  · exact Or.inl rfl
theorem own_26 (i1 : Int32) (j4 : Int64) : own_j2_6_0 (own_j0_66_0 i1 j4) = own_j0_104_0 i1 j4 ∧ -1 ≤ (own_j0_104_0 i1 j4).toInt := by
  unfold own_j2_6_0 own_j0_104_0
  by_cases q : own_j0_66_0 i1 j4 = -1
  · rw [if_pos q, if_pos q]; exact ⟨rfl, by decide⟩
  · rw [if_neg q, if_neg q]
    have h := own_ceil _ ((own_66 i1 j4).resolve_left q)
    exact ⟨h.1, by omega⟩
theorem own_ob0_g139_0 (j2 : Int64) (j3 : Int64) : ¬ ((own_j0_45_0 j2 j3) < (0 : Int64)) := by
  have h := own_45 j2 j3
  rw [Int64.lt_iff_toInt_lt]
  show ¬ _ < (0 : Int)
  omega
theorem own_ob0_g139_1 (j2 : Int64) (j3 : Int64) : ¬ ((j2 &&& (9223372036854775807 : Int64)) < (own_j0_45_0 j2 j3)) := by
  have h := own_45 j2 j3
  rw [Int64.lt_iff_toInt_lt]
  omega
theorem own_ob0_g139_2 (i1 : Int32) (j4 : Int64) : ¬ ((own_j2_6_0 (own_j0_66_0 i1 j4)) < (-1 : Int64)) := by
  have h := own_26 i1 j4
  rw [Int64.lt_iff_toInt_lt, h.1, show (-1 : Int64).toInt = -1 from by decide]
  omega
theorem own_ob0_g139_3 (i1 : Int32) (j4 : Int64) : (¬ ((own_j0_3_0 i1) = (0 : Int32)) → (own_j2_6_0 (own_j0_66_0 i1 j4)) = (-1 : Int64)) := by
  intro h
  have e : own_j0_66_0 i1 j4 = -1 := if_neg h
  rw [e]
  rfl
theorem own_ob0_g139_4 (j5 : Int64) : ¬ ((-(own_r4 (-(j5 &&& (9223372036854775807 : Int64))) (1000 : Int64))) < (0 : Int64)) := by
  have h := own_ceil _ (own_m63 j5)
  rw [h.1, Int64.lt_iff_toInt_lt]
  show ¬ _ < (0 : Int)
  omega
def Q0 (Z : State) (i1 : Int32) (j2 : Int64) (j3 : Int64) (j4 : Int64) (j5 : Int64) (h0 : Heap) (n0 : Nat) (v : Option Value) (h : Heap) (L : List Loc) : Prop := v = some (.int (nar .boolean (own_j0_151_0 i1 j4 j5))) ∧ Fr n0 L
theorem ef_0 (m : MethodId) (x0 : Int32) (x1 : Int64) (x2 : Int64) (x3 : Int64) (x4 : Int64) : entryFrame m #[(.int x0), (.long x1), (.long x2), (.long x3), (.long x4)] maxLocals = mkF m 0 #[.val (.int x0), .val (.long x1), .second, .val (.long x2), .second, .val (.long x3), .second, .val (.long x4), .second, .unset, .unset, .unset, .unset, .unset, .unset, .unset, .unset, .unset, .unset, .unset, .unset, .unset, .unset, .unset, .unset, .unset] [] := by first | (simp [entryFrame, mkF, argsToLocals, Value.category, maxLocals]; done) | rfl
set_option maxRecDepth 65536 in
set_option maxHeartbeats 40000000 in
theorem rm0 (l : Launch) (Z : State) (a0 : Array Value) (hw : ∀ d ∈ tables_1, d.before a0 Z = true) (ws : List Jvm.Cond) (i1 : Int32) (j2 : Int64) (j3 : Int64) (j4 : Int64) (j5 : Int64) (h0 : Heap) (n0 : Nat) (Z0 : n0 ≤ h0.size) :
    MetFree l x (head1 (Jvm.Cond.code x code maxLocals ret :: ws) room_1) (fun a U => a = #[(.int i1), (.long j2), (.long j3), (.long j4), (.long j5)] ∧ Z.Warmed39 U.vm ∧ U.heap = h0) (fun _ _ _ _ _ => True) (fun _ U o U' => ∃ v L, o = .returned v ∧ Q0 Z i1 j2 j3 j4 j5 h0 n0 v U'.heap L ∧ FrameEnd U o U' L room_1.cells room_1.slots) := by
  refine MetFree.of_bodySF (plainFor_of_name pn_0) hisR ?_
  intro p e s m args below meth c s₁ Bd hml0 hP hK
  obtain ⟨rfl, hZ, hh⟩ := hP
  have hx := Bd.exec
  have hby := Bd.bytes
  have hml : c.maxLocals = 26 := hml0
  have hown : s.vm.findClass "com/example/burst/burst/MemoryRuleDecisionPinLaw" = some m.cls := findClass_of_methodNamed Bd.named
  have hnm := (name_of_methodNamed Bd.named Bd.method).1
  have X0 : Stand p l e room_1 s m #[(.int i1), (.long j2), (.long j3), (.long j4), (.long j5)] below meth c s₁ [] 0 0 := Stand.of_body Bd
  have e0 : s₁.heap = h0 := by rw [← hh, Bd.state]; rfl
  have N0 := Fr.nil n0
  have pre0 : ∀ t, Steps p.tables e below (s₁.setTop (mkF m 0 #[.val (.int i1), .val (.long j2), .second, .val (.long j3), .second, .val (.long j4), .second, .val (.long j5), .second, .unset, .unset, .unset, .unset, .unset, .unset, .unset, .unset, .unset, .unset, .unset, .unset, .unset, .unset, .unset, .unset, .unset] [])) t → Steps p.tables e below (s₁.setTop (entryFrame m #[(.int i1), (.long j2), (.long j3), (.long j4), (.long j5)] maxLocals)) t := fun t k => castTop (ef_0 m i1 j2 j3 j4 j5) k
  have pre1 : ∀ t, Steps p.tables e below (s₁.setTop (mkF m 3 #[.val (.int i1), .val (.long j2), .second, .val (.long j3), .second, .val (.long j4), .second, .val (.long j5), .second, .unset, .unset, .unset, .unset, .unset, .unset, .unset, .unset, .unset, .unset, .unset, .unset, .unset, .unset, .unset, .unset, .unset] [(.int (i1 &&& (1 : Int32)))])) t → Steps p.tables e below (s₁.setTop (entryFrame m #[(.int i1), (.long j2), (.long j3), (.long j4), (.long j5)] maxLocals)) t := by
    intro t k
    refine pre0 _ ?_
    show Steps p.tables e below (s₁.setTop (mkF m 0 #[.val (.int i1), .val (.long j2), .second, .val (.long j3), .second, .val (.long j4), .second, .val (.long j5), .second, .unset, .unset, .unset, .unset, .unset, .unset, .unset, .unset, .unset, .unset, .unset, .unset, .unset, .unset, .unset, .unset, .unset] [])) _
    refine XS.iloadN X0.here hx rfl (hb hby at_0) rfl ?_
    show Steps p.tables e below (s₁.setTop (mkF m 1 #[.val (.int i1), .val (.long j2), .second, .val (.long j3), .second, .val (.long j4), .second, .val (.long j5), .second, .unset, .unset, .unset, .unset, .unset, .unset, .unset, .unset, .unset, .unset, .unset, .unset, .unset, .unset, .unset, .unset, .unset] [(.int i1)])) _
    refine XS.iconst X0.here hx rfl (hb hby at_1) ?_
    show Steps p.tables e below (s₁.setTop (mkF m 2 #[.val (.int i1), .val (.long j2), .second, .val (.long j3), .second, .val (.long j4), .second, .val (.long j5), .second, .unset, .unset, .unset, .unset, .unset, .unset, .unset, .unset, .unset, .unset, .unset, .unset, .unset, .unset, .unset, .unset, .unset] [(.int (1 : Int32)), (.int i1)])) _
    refine XS.iand X0.here hx rfl (hb hby at_2) rfl ?_
    exact k
  have pre5 : ∀ t, Steps p.tables e below (s₁.setTop (mkF m 11 #[.val (.int i1), .val (.long j2), .second, .val (.long j3), .second, .val (.long j4), .second, .val (.long j5), .second, .unset, .unset, .unset, .unset, .unset, .unset, .unset, .unset, .unset, .unset, .unset, .unset, .unset, .unset, .unset, .unset, .unset] [(.int (own_j0_3_0 i1))])) t → Steps p.tables e below (s₁.setTop (entryFrame m #[(.int i1), (.long j2), (.long j3), (.long j4), (.long j5)] maxLocals)) t := by
    by_cases hc3_2 : (i1 &&& (1 : Int32)) = (0 : Int32)
    · have pre3 : ∀ t, Steps p.tables e below (s₁.setTop (mkF m 11 #[.val (.int i1), .val (.long j2), .second, .val (.long j3), .second, .val (.long j4), .second, .val (.long j5), .second, .unset, .unset, .unset, .unset, .unset, .unset, .unset, .unset, .unset, .unset, .unset, .unset, .unset, .unset, .unset, .unset, .unset] [(.int (0 : Int32))])) t → Steps p.tables e below (s₁.setTop (entryFrame m #[(.int i1), (.long j2), (.long j3), (.long j4), (.long j5)] maxLocals)) t := by
        intro t k
        refine pre1 _ ?_
        show Steps p.tables e below (s₁.setTop (mkF m 3 #[.val (.int i1), .val (.long j2), .second, .val (.long j3), .second, .val (.long j4), .second, .val (.long j5), .second, .unset, .unset, .unset, .unset, .unset, .unset, .unset, .unset, .unset, .unset, .unset, .unset, .unset, .unset, .unset, .unset, .unset] [(.int (i1 &&& (1 : Int32)))])) _
        refine XS.ifYes X0.here hx rfl (pc0 := 3) (pc' := 10) rfl (hb hby at_3) rfl ((if0 _ _).trans (teq hc3_2).1) (by decide) (by decide) ?_
        show Steps p.tables e below (s₁.setTop (mkF m 10 #[.val (.int i1), .val (.long j2), .second, .val (.long j3), .second, .val (.long j4), .second, .val (.long j5), .second, .unset, .unset, .unset, .unset, .unset, .unset, .unset, .unset, .unset, .unset, .unset, .unset, .unset, .unset, .unset, .unset, .unset] [])) _
        refine XS.iconst X0.here hx rfl (hb hby at_10) ?_
        exact k
      exact fun t k => pre3 t (by rw [show (own_j0_3_0 i1) = (0 : Int32) from (if_pos hc3_2)] at k; exact k)
    · have pre4 : ∀ t, Steps p.tables e below (s₁.setTop (mkF m 11 #[.val (.int i1), .val (.long j2), .second, .val (.long j3), .second, .val (.long j4), .second, .val (.long j5), .second, .unset, .unset, .unset, .unset, .unset, .unset, .unset, .unset, .unset, .unset, .unset, .unset, .unset, .unset, .unset, .unset, .unset] [(.int (1 : Int32))])) t → Steps p.tables e below (s₁.setTop (entryFrame m #[(.int i1), (.long j2), (.long j3), (.long j4), (.long j5)] maxLocals)) t := by
        intro t k
        refine pre1 _ ?_
        show Steps p.tables e below (s₁.setTop (mkF m 3 #[.val (.int i1), .val (.long j2), .second, .val (.long j3), .second, .val (.long j4), .second, .val (.long j5), .second, .unset, .unset, .unset, .unset, .unset, .unset, .unset, .unset, .unset, .unset, .unset, .unset, .unset, .unset, .unset, .unset, .unset] [(.int (i1 &&& (1 : Int32)))])) _
        refine XS.ifNo X0.here hx rfl (hb hby at_3) rfl ((if0 _ _).trans (feq hc3_2).1) ?_
        show Steps p.tables e below (s₁.setTop (mkF m 6 #[.val (.int i1), .val (.long j2), .second, .val (.long j3), .second, .val (.long j4), .second, .val (.long j5), .second, .unset, .unset, .unset, .unset, .unset, .unset, .unset, .unset, .unset, .unset, .unset, .unset, .unset, .unset, .unset, .unset, .unset] [])) _
        refine XS.iconst X0.here hx rfl (hb hby at_6) ?_
        show Steps p.tables e below (s₁.setTop (mkF m 7 #[.val (.int i1), .val (.long j2), .second, .val (.long j3), .second, .val (.long j4), .second, .val (.long j5), .second, .unset, .unset, .unset, .unset, .unset, .unset, .unset, .unset, .unset, .unset, .unset, .unset, .unset, .unset, .unset, .unset, .unset] [(.int (1 : Int32))])) _
        refine XS.goto X0.here hx rfl (pc0 := 7) (pc' := 11) rfl (hb hby at_7) (by decide) (by decide) ?_
        exact k
      exact fun t k => pre4 t (by rw [show (own_j0_3_0 i1) = (1 : Int32) from (if_neg hc3_2)] at k; exact k)
  have pre6 : ∀ t, Steps p.tables e below (s₁.setTop (mkF m 16 #[.val (.int i1), .val (.long j2), .second, .val (.long j3), .second, .val (.long j4), .second, .val (.long j5), .second, .val (.int (own_j0_3_0 i1)), .unset, .unset, .unset, .unset, .unset, .unset, .unset, .unset, .unset, .unset, .unset, .unset, .unset, .unset, .unset, .unset] [(.int (i1 &&& (2 : Int32)))])) t → Steps p.tables e below (s₁.setTop (entryFrame m #[(.int i1), (.long j2), (.long j3), (.long j4), (.long j5)] maxLocals)) t := by
    intro t k
    refine pre5 _ ?_
    show Steps p.tables e below (s₁.setTop (mkF m 11 #[.val (.int i1), .val (.long j2), .second, .val (.long j3), .second, .val (.long j4), .second, .val (.long j5), .second, .unset, .unset, .unset, .unset, .unset, .unset, .unset, .unset, .unset, .unset, .unset, .unset, .unset, .unset, .unset, .unset, .unset] [(.int (own_j0_3_0 i1))])) _
    refine XS.istore X0.here hx rfl (hb hby at_11) rfl (l' := #[.val (.int i1), .val (.long j2), .second, .val (.long j3), .second, .val (.long j4), .second, .val (.long j5), .second, .val (.int (own_j0_3_0 i1)), .unset, .unset, .unset, .unset, .unset, .unset, .unset, .unset, .unset, .unset, .unset, .unset, .unset, .unset, .unset, .unset]) rfl ?_
    show Steps p.tables e below (s₁.setTop (mkF m 13 #[.val (.int i1), .val (.long j2), .second, .val (.long j3), .second, .val (.long j4), .second, .val (.long j5), .second, .val (.int (own_j0_3_0 i1)), .unset, .unset, .unset, .unset, .unset, .unset, .unset, .unset, .unset, .unset, .unset, .unset, .unset, .unset, .unset, .unset] [])) _
    refine XS.iloadN X0.here hx rfl (hb hby at_13) rfl ?_
    show Steps p.tables e below (s₁.setTop (mkF m 14 #[.val (.int i1), .val (.long j2), .second, .val (.long j3), .second, .val (.long j4), .second, .val (.long j5), .second, .val (.int (own_j0_3_0 i1)), .unset, .unset, .unset, .unset, .unset, .unset, .unset, .unset, .unset, .unset, .unset, .unset, .unset, .unset, .unset, .unset] [(.int i1)])) _
    refine XS.iconst X0.here hx rfl (hb hby at_14) ?_
    show Steps p.tables e below (s₁.setTop (mkF m 15 #[.val (.int i1), .val (.long j2), .second, .val (.long j3), .second, .val (.long j4), .second, .val (.long j5), .second, .val (.int (own_j0_3_0 i1)), .unset, .unset, .unset, .unset, .unset, .unset, .unset, .unset, .unset, .unset, .unset, .unset, .unset, .unset, .unset, .unset] [(.int (2 : Int32)), (.int i1)])) _
    refine XS.iand X0.here hx rfl (hb hby at_15) rfl ?_
    exact k
  have pre10 : ∀ t, Steps p.tables e below (s₁.setTop (mkF m 24 #[.val (.int i1), .val (.long j2), .second, .val (.long j3), .second, .val (.long j4), .second, .val (.long j5), .second, .val (.int (own_j0_3_0 i1)), .unset, .unset, .unset, .unset, .unset, .unset, .unset, .unset, .unset, .unset, .unset, .unset, .unset, .unset, .unset, .unset] [(.int (own_j0_16_0 i1))])) t → Steps p.tables e below (s₁.setTop (entryFrame m #[(.int i1), (.long j2), (.long j3), (.long j4), (.long j5)] maxLocals)) t := by
    by_cases hc16_7 : (i1 &&& (2 : Int32)) = (0 : Int32)
    · have pre8 : ∀ t, Steps p.tables e below (s₁.setTop (mkF m 24 #[.val (.int i1), .val (.long j2), .second, .val (.long j3), .second, .val (.long j4), .second, .val (.long j5), .second, .val (.int (own_j0_3_0 i1)), .unset, .unset, .unset, .unset, .unset, .unset, .unset, .unset, .unset, .unset, .unset, .unset, .unset, .unset, .unset, .unset] [(.int (0 : Int32))])) t → Steps p.tables e below (s₁.setTop (entryFrame m #[(.int i1), (.long j2), (.long j3), (.long j4), (.long j5)] maxLocals)) t := by
        intro t k
        refine pre6 _ ?_
        show Steps p.tables e below (s₁.setTop (mkF m 16 #[.val (.int i1), .val (.long j2), .second, .val (.long j3), .second, .val (.long j4), .second, .val (.long j5), .second, .val (.int (own_j0_3_0 i1)), .unset, .unset, .unset, .unset, .unset, .unset, .unset, .unset, .unset, .unset, .unset, .unset, .unset, .unset, .unset, .unset] [(.int (i1 &&& (2 : Int32)))])) _
        refine XS.ifYes X0.here hx rfl (pc0 := 16) (pc' := 23) rfl (hb hby at_16) rfl ((if0 _ _).trans (teq hc16_7).1) (by decide) (by decide) ?_
        show Steps p.tables e below (s₁.setTop (mkF m 23 #[.val (.int i1), .val (.long j2), .second, .val (.long j3), .second, .val (.long j4), .second, .val (.long j5), .second, .val (.int (own_j0_3_0 i1)), .unset, .unset, .unset, .unset, .unset, .unset, .unset, .unset, .unset, .unset, .unset, .unset, .unset, .unset, .unset, .unset] [])) _
        refine XS.iconst X0.here hx rfl (hb hby at_23) ?_
        exact k
      exact fun t k => pre8 t (by rw [show (own_j0_16_0 i1) = (0 : Int32) from (if_pos hc16_7)] at k; exact k)
    · have pre9 : ∀ t, Steps p.tables e below (s₁.setTop (mkF m 24 #[.val (.int i1), .val (.long j2), .second, .val (.long j3), .second, .val (.long j4), .second, .val (.long j5), .second, .val (.int (own_j0_3_0 i1)), .unset, .unset, .unset, .unset, .unset, .unset, .unset, .unset, .unset, .unset, .unset, .unset, .unset, .unset, .unset, .unset] [(.int (1 : Int32))])) t → Steps p.tables e below (s₁.setTop (entryFrame m #[(.int i1), (.long j2), (.long j3), (.long j4), (.long j5)] maxLocals)) t := by
        intro t k
        refine pre6 _ ?_
        show Steps p.tables e below (s₁.setTop (mkF m 16 #[.val (.int i1), .val (.long j2), .second, .val (.long j3), .second, .val (.long j4), .second, .val (.long j5), .second, .val (.int (own_j0_3_0 i1)), .unset, .unset, .unset, .unset, .unset, .unset, .unset, .unset, .unset, .unset, .unset, .unset, .unset, .unset, .unset, .unset] [(.int (i1 &&& (2 : Int32)))])) _
        refine XS.ifNo X0.here hx rfl (hb hby at_16) rfl ((if0 _ _).trans (feq hc16_7).1) ?_
        show Steps p.tables e below (s₁.setTop (mkF m 19 #[.val (.int i1), .val (.long j2), .second, .val (.long j3), .second, .val (.long j4), .second, .val (.long j5), .second, .val (.int (own_j0_3_0 i1)), .unset, .unset, .unset, .unset, .unset, .unset, .unset, .unset, .unset, .unset, .unset, .unset, .unset, .unset, .unset, .unset] [])) _
        refine XS.iconst X0.here hx rfl (hb hby at_19) ?_
        show Steps p.tables e below (s₁.setTop (mkF m 20 #[.val (.int i1), .val (.long j2), .second, .val (.long j3), .second, .val (.long j4), .second, .val (.long j5), .second, .val (.int (own_j0_3_0 i1)), .unset, .unset, .unset, .unset, .unset, .unset, .unset, .unset, .unset, .unset, .unset, .unset, .unset, .unset, .unset, .unset] [(.int (1 : Int32))])) _
        refine XS.goto X0.here hx rfl (pc0 := 20) (pc' := 24) rfl (hb hby at_20) (by decide) (by decide) ?_
        exact k
      exact fun t k => pre9 t (by rw [show (own_j0_16_0 i1) = (1 : Int32) from (if_neg hc16_7)] at k; exact k)
  have pre11 : ∀ t, Steps p.tables e below (s₁.setTop (mkF m 45 #[.val (.int i1), .val (.long j2), .second, .val (.long j3), .second, .val (.long j4), .second, .val (.long j5), .second, .val (.int (own_j0_3_0 i1)), .val (.int (own_j0_16_0 i1)), .val (.long (j2 &&& (9223372036854775807 : Int64))), .second, .val (.long (j3 &&& (9223372036854775807 : Int64))), .second, .unset, .unset, .unset, .unset, .unset, .unset, .unset, .unset, .unset, .unset, .unset] [(.int (lcmpW (j3 &&& (9223372036854775807 : Int64)) (j2 &&& (9223372036854775807 : Int64))))])) t → Steps p.tables e below (s₁.setTop (entryFrame m #[(.int i1), (.long j2), (.long j3), (.long j4), (.long j5)] maxLocals)) t := by
    intro t k
    refine pre10 _ ?_
    show Steps p.tables e below (s₁.setTop (mkF m 24 #[.val (.int i1), .val (.long j2), .second, .val (.long j3), .second, .val (.long j4), .second, .val (.long j5), .second, .val (.int (own_j0_3_0 i1)), .unset, .unset, .unset, .unset, .unset, .unset, .unset, .unset, .unset, .unset, .unset, .unset, .unset, .unset, .unset, .unset] [(.int (own_j0_16_0 i1))])) _
    refine XS.istore X0.here hx rfl (hb hby at_24) rfl (l' := #[.val (.int i1), .val (.long j2), .second, .val (.long j3), .second, .val (.long j4), .second, .val (.long j5), .second, .val (.int (own_j0_3_0 i1)), .val (.int (own_j0_16_0 i1)), .unset, .unset, .unset, .unset, .unset, .unset, .unset, .unset, .unset, .unset, .unset, .unset, .unset, .unset, .unset]) rfl ?_
    show Steps p.tables e below (s₁.setTop (mkF m 26 #[.val (.int i1), .val (.long j2), .second, .val (.long j3), .second, .val (.long j4), .second, .val (.long j5), .second, .val (.int (own_j0_3_0 i1)), .val (.int (own_j0_16_0 i1)), .unset, .unset, .unset, .unset, .unset, .unset, .unset, .unset, .unset, .unset, .unset, .unset, .unset, .unset, .unset] [])) _
    refine XS.lloadN X0.here hx rfl (hb hby at_26) rfl ?_
    show Steps p.tables e below (s₁.setTop (mkF m 27 #[.val (.int i1), .val (.long j2), .second, .val (.long j3), .second, .val (.long j4), .second, .val (.long j5), .second, .val (.int (own_j0_3_0 i1)), .val (.int (own_j0_16_0 i1)), .unset, .unset, .unset, .unset, .unset, .unset, .unset, .unset, .unset, .unset, .unset, .unset, .unset, .unset, .unset] [(.long j2)])) _
    refine X0.ldc2Long hx hown (mvT hZ (hw _ (List.mem_of_getElem? (i := 0) rfl))) (g := (mkF m 27 #[.val (.int i1), .val (.long j2), .second, .val (.long j3), .second, .val (.long j4), .second, .val (.long j5), .second, .val (.int (own_j0_3_0 i1)), .val (.int (own_j0_16_0 i1)), .unset, .unset, .unset, .unset, .unset, .unset, .unset, .unset, .unset, .unset, .unset, .unset, .unset, .unset, .unset] [(.long j2)])) rfl (hb hby at_27) _ ?_
    show Steps p.tables e below (s₁.setTop (mkF m 30 #[.val (.int i1), .val (.long j2), .second, .val (.long j3), .second, .val (.long j4), .second, .val (.long j5), .second, .val (.int (own_j0_3_0 i1)), .val (.int (own_j0_16_0 i1)), .unset, .unset, .unset, .unset, .unset, .unset, .unset, .unset, .unset, .unset, .unset, .unset, .unset, .unset, .unset] [(.long (9223372036854775807 : Int64)), (.long j2)])) _
    refine XS.land X0.here hx rfl (hb hby at_30) rfl ?_
    show Steps p.tables e below (s₁.setTop (mkF m 31 #[.val (.int i1), .val (.long j2), .second, .val (.long j3), .second, .val (.long j4), .second, .val (.long j5), .second, .val (.int (own_j0_3_0 i1)), .val (.int (own_j0_16_0 i1)), .unset, .unset, .unset, .unset, .unset, .unset, .unset, .unset, .unset, .unset, .unset, .unset, .unset, .unset, .unset] [(.long (j2 &&& (9223372036854775807 : Int64)))])) _
    refine XS.lstore X0.here hx rfl (hb hby at_31) rfl (l' := #[.val (.int i1), .val (.long j2), .second, .val (.long j3), .second, .val (.long j4), .second, .val (.long j5), .second, .val (.int (own_j0_3_0 i1)), .val (.int (own_j0_16_0 i1)), .val (.long (j2 &&& (9223372036854775807 : Int64))), .second, .unset, .unset, .unset, .unset, .unset, .unset, .unset, .unset, .unset, .unset, .unset, .unset, .unset]) rfl ?_
    show Steps p.tables e below (s₁.setTop (mkF m 33 #[.val (.int i1), .val (.long j2), .second, .val (.long j3), .second, .val (.long j4), .second, .val (.long j5), .second, .val (.int (own_j0_3_0 i1)), .val (.int (own_j0_16_0 i1)), .val (.long (j2 &&& (9223372036854775807 : Int64))), .second, .unset, .unset, .unset, .unset, .unset, .unset, .unset, .unset, .unset, .unset, .unset, .unset, .unset] [])) _
    refine XS.lloadN X0.here hx rfl (hb hby at_33) rfl ?_
    show Steps p.tables e below (s₁.setTop (mkF m 34 #[.val (.int i1), .val (.long j2), .second, .val (.long j3), .second, .val (.long j4), .second, .val (.long j5), .second, .val (.int (own_j0_3_0 i1)), .val (.int (own_j0_16_0 i1)), .val (.long (j2 &&& (9223372036854775807 : Int64))), .second, .unset, .unset, .unset, .unset, .unset, .unset, .unset, .unset, .unset, .unset, .unset, .unset, .unset] [(.long j3)])) _
    refine X0.ldc2Long hx hown (mvT hZ (hw _ (List.mem_of_getElem? (i := 0) rfl))) (g := (mkF m 34 #[.val (.int i1), .val (.long j2), .second, .val (.long j3), .second, .val (.long j4), .second, .val (.long j5), .second, .val (.int (own_j0_3_0 i1)), .val (.int (own_j0_16_0 i1)), .val (.long (j2 &&& (9223372036854775807 : Int64))), .second, .unset, .unset, .unset, .unset, .unset, .unset, .unset, .unset, .unset, .unset, .unset, .unset, .unset] [(.long j3)])) rfl (hb hby at_34) _ ?_
    show Steps p.tables e below (s₁.setTop (mkF m 37 #[.val (.int i1), .val (.long j2), .second, .val (.long j3), .second, .val (.long j4), .second, .val (.long j5), .second, .val (.int (own_j0_3_0 i1)), .val (.int (own_j0_16_0 i1)), .val (.long (j2 &&& (9223372036854775807 : Int64))), .second, .unset, .unset, .unset, .unset, .unset, .unset, .unset, .unset, .unset, .unset, .unset, .unset, .unset] [(.long (9223372036854775807 : Int64)), (.long j3)])) _
    refine XS.land X0.here hx rfl (hb hby at_37) rfl ?_
    show Steps p.tables e below (s₁.setTop (mkF m 38 #[.val (.int i1), .val (.long j2), .second, .val (.long j3), .second, .val (.long j4), .second, .val (.long j5), .second, .val (.int (own_j0_3_0 i1)), .val (.int (own_j0_16_0 i1)), .val (.long (j2 &&& (9223372036854775807 : Int64))), .second, .unset, .unset, .unset, .unset, .unset, .unset, .unset, .unset, .unset, .unset, .unset, .unset, .unset] [(.long (j3 &&& (9223372036854775807 : Int64)))])) _
    refine XS.lstore X0.here hx rfl (hb hby at_38) rfl (l' := #[.val (.int i1), .val (.long j2), .second, .val (.long j3), .second, .val (.long j4), .second, .val (.long j5), .second, .val (.int (own_j0_3_0 i1)), .val (.int (own_j0_16_0 i1)), .val (.long (j2 &&& (9223372036854775807 : Int64))), .second, .val (.long (j3 &&& (9223372036854775807 : Int64))), .second, .unset, .unset, .unset, .unset, .unset, .unset, .unset, .unset, .unset, .unset, .unset]) rfl ?_
    show Steps p.tables e below (s₁.setTop (mkF m 40 #[.val (.int i1), .val (.long j2), .second, .val (.long j3), .second, .val (.long j4), .second, .val (.long j5), .second, .val (.int (own_j0_3_0 i1)), .val (.int (own_j0_16_0 i1)), .val (.long (j2 &&& (9223372036854775807 : Int64))), .second, .val (.long (j3 &&& (9223372036854775807 : Int64))), .second, .unset, .unset, .unset, .unset, .unset, .unset, .unset, .unset, .unset, .unset, .unset] [])) _
    refine XS.lload X0.here hx rfl (hb hby at_40) rfl ?_
    show Steps p.tables e below (s₁.setTop (mkF m 42 #[.val (.int i1), .val (.long j2), .second, .val (.long j3), .second, .val (.long j4), .second, .val (.long j5), .second, .val (.int (own_j0_3_0 i1)), .val (.int (own_j0_16_0 i1)), .val (.long (j2 &&& (9223372036854775807 : Int64))), .second, .val (.long (j3 &&& (9223372036854775807 : Int64))), .second, .unset, .unset, .unset, .unset, .unset, .unset, .unset, .unset, .unset, .unset, .unset] [(.long (j3 &&& (9223372036854775807 : Int64)))])) _
    refine XS.lload X0.here hx rfl (hb hby at_42) rfl ?_
    show Steps p.tables e below (s₁.setTop (mkF m 44 #[.val (.int i1), .val (.long j2), .second, .val (.long j3), .second, .val (.long j4), .second, .val (.long j5), .second, .val (.int (own_j0_3_0 i1)), .val (.int (own_j0_16_0 i1)), .val (.long (j2 &&& (9223372036854775807 : Int64))), .second, .val (.long (j3 &&& (9223372036854775807 : Int64))), .second, .unset, .unset, .unset, .unset, .unset, .unset, .unset, .unset, .unset, .unset, .unset] [(.long (j2 &&& (9223372036854775807 : Int64))), (.long (j3 &&& (9223372036854775807 : Int64)))])) _
    refine XS.lcmp X0.here hx rfl (hb hby at_44) rfl ?_
    exact k
  have pre15 : ∀ t, Steps p.tables e below (s₁.setTop (mkF m 64 #[.val (.int i1), .val (.long j2), .second, .val (.long j3), .second, .val (.long j4), .second, .val (.long j5), .second, .val (.int (own_j0_3_0 i1)), .val (.int (own_j0_16_0 i1)), .val (.long (j2 &&& (9223372036854775807 : Int64))), .second, .val (.long (j3 &&& (9223372036854775807 : Int64))), .second, .val (.long (own_j0_45_0 j2 j3)), .second, .unset, .unset, .unset, .unset, .unset, .unset, .unset, .unset, .unset] [])) t → Steps p.tables e below (s₁.setTop (entryFrame m #[(.int i1), (.long j2), (.long j3), (.long j4), (.long j5)] maxLocals)) t := by
    by_cases hc45_12 : (j2 &&& (9223372036854775807 : Int64)) < (j3 &&& (9223372036854775807 : Int64))
    · have pre13 : ∀ t, Steps p.tables e below (s₁.setTop (mkF m 64 #[.val (.int i1), .val (.long j2), .second, .val (.long j3), .second, .val (.long j4), .second, .val (.long j5), .second, .val (.int (own_j0_3_0 i1)), .val (.int (own_j0_16_0 i1)), .val (.long (j2 &&& (9223372036854775807 : Int64))), .second, .val (.long (j3 &&& (9223372036854775807 : Int64))), .second, .val (.long ((j3 &&& (9223372036854775807 : Int64)) - ((j3 &&& (9223372036854775807 : Int64)) / ((j2 &&& (9223372036854775807 : Int64)) + (1 : Int64))) * ((j2 &&& (9223372036854775807 : Int64)) + (1 : Int64)))), .second, .unset, .unset, .unset, .unset, .unset, .unset, .unset, .unset, .unset] [])) t → Steps p.tables e below (s₁.setTop (entryFrame m #[(.int i1), (.long j2), (.long j3), (.long j4), (.long j5)] maxLocals)) t := by
        intro t k
        refine pre11 _ ?_
        show Steps p.tables e below (s₁.setTop (mkF m 45 #[.val (.int i1), .val (.long j2), .second, .val (.long j3), .second, .val (.long j4), .second, .val (.long j5), .second, .val (.int (own_j0_3_0 i1)), .val (.int (own_j0_16_0 i1)), .val (.long (j2 &&& (9223372036854775807 : Int64))), .second, .val (.long (j3 &&& (9223372036854775807 : Int64))), .second, .unset, .unset, .unset, .unset, .unset, .unset, .unset, .unset, .unset, .unset, .unset] [(.int (lcmpW (j3 &&& (9223372036854775807 : Int64)) (j2 &&& (9223372036854775807 : Int64))))])) _
        refine XS.ifYes X0.here hx rfl (pc0 := 45) (pc' := 55) rfl (hb hby at_45) rfl ((if0 _ _).trans (tlt ((lw_gt (j3 &&& (9223372036854775807 : Int64)) (j2 &&& (9223372036854775807 : Int64))).mpr hc45_12)).2.2.1) (by decide) (by decide) ?_
        show Steps p.tables e below (s₁.setTop (mkF m 55 #[.val (.int i1), .val (.long j2), .second, .val (.long j3), .second, .val (.long j4), .second, .val (.long j5), .second, .val (.int (own_j0_3_0 i1)), .val (.int (own_j0_16_0 i1)), .val (.long (j2 &&& (9223372036854775807 : Int64))), .second, .val (.long (j3 &&& (9223372036854775807 : Int64))), .second, .unset, .unset, .unset, .unset, .unset, .unset, .unset, .unset, .unset, .unset, .unset] [])) _
        refine XS.lload X0.here hx rfl (hb hby at_55) rfl ?_
        show Steps p.tables e below (s₁.setTop (mkF m 57 #[.val (.int i1), .val (.long j2), .second, .val (.long j3), .second, .val (.long j4), .second, .val (.long j5), .second, .val (.int (own_j0_3_0 i1)), .val (.int (own_j0_16_0 i1)), .val (.long (j2 &&& (9223372036854775807 : Int64))), .second, .val (.long (j3 &&& (9223372036854775807 : Int64))), .second, .unset, .unset, .unset, .unset, .unset, .unset, .unset, .unset, .unset, .unset, .unset] [(.long (j3 &&& (9223372036854775807 : Int64)))])) _
        refine XS.lload X0.here hx rfl (hb hby at_57) rfl ?_
        show Steps p.tables e below (s₁.setTop (mkF m 59 #[.val (.int i1), .val (.long j2), .second, .val (.long j3), .second, .val (.long j4), .second, .val (.long j5), .second, .val (.int (own_j0_3_0 i1)), .val (.int (own_j0_16_0 i1)), .val (.long (j2 &&& (9223372036854775807 : Int64))), .second, .val (.long (j3 &&& (9223372036854775807 : Int64))), .second, .unset, .unset, .unset, .unset, .unset, .unset, .unset, .unset, .unset, .unset, .unset] [(.long (j2 &&& (9223372036854775807 : Int64))), (.long (j3 &&& (9223372036854775807 : Int64)))])) _
        refine XS.lconst X0.here hx rfl (hb hby at_59) ?_
        show Steps p.tables e below (s₁.setTop (mkF m 60 #[.val (.int i1), .val (.long j2), .second, .val (.long j3), .second, .val (.long j4), .second, .val (.long j5), .second, .val (.int (own_j0_3_0 i1)), .val (.int (own_j0_16_0 i1)), .val (.long (j2 &&& (9223372036854775807 : Int64))), .second, .val (.long (j3 &&& (9223372036854775807 : Int64))), .second, .unset, .unset, .unset, .unset, .unset, .unset, .unset, .unset, .unset, .unset, .unset] [(.long (1 : Int64)), (.long (j2 &&& (9223372036854775807 : Int64))), (.long (j3 &&& (9223372036854775807 : Int64)))])) _
        refine XS.ladd X0.here hx rfl (hb hby at_60) rfl ?_
        show Steps p.tables e below (s₁.setTop (mkF m 61 #[.val (.int i1), .val (.long j2), .second, .val (.long j3), .second, .val (.long j4), .second, .val (.long j5), .second, .val (.int (own_j0_3_0 i1)), .val (.int (own_j0_16_0 i1)), .val (.long (j2 &&& (9223372036854775807 : Int64))), .second, .val (.long (j3 &&& (9223372036854775807 : Int64))), .second, .unset, .unset, .unset, .unset, .unset, .unset, .unset, .unset, .unset, .unset, .unset] [(.long ((j2 &&& (9223372036854775807 : Int64)) + (1 : Int64))), (.long (j3 &&& (9223372036854775807 : Int64)))])) _
        refine XS.lrem X0.here hx rfl (hb hby at_61) rfl (own_ob0_nz61 j2) ?_
        show Steps p.tables e below (s₁.setTop (mkF m 62 #[.val (.int i1), .val (.long j2), .second, .val (.long j3), .second, .val (.long j4), .second, .val (.long j5), .second, .val (.int (own_j0_3_0 i1)), .val (.int (own_j0_16_0 i1)), .val (.long (j2 &&& (9223372036854775807 : Int64))), .second, .val (.long (j3 &&& (9223372036854775807 : Int64))), .second, .unset, .unset, .unset, .unset, .unset, .unset, .unset, .unset, .unset, .unset, .unset] [(.long ((j3 &&& (9223372036854775807 : Int64)) - ((j3 &&& (9223372036854775807 : Int64)) / ((j2 &&& (9223372036854775807 : Int64)) + (1 : Int64))) * ((j2 &&& (9223372036854775807 : Int64)) + (1 : Int64))))])) _
        refine XS.lstore X0.here hx rfl (hb hby at_62) rfl (l' := #[.val (.int i1), .val (.long j2), .second, .val (.long j3), .second, .val (.long j4), .second, .val (.long j5), .second, .val (.int (own_j0_3_0 i1)), .val (.int (own_j0_16_0 i1)), .val (.long (j2 &&& (9223372036854775807 : Int64))), .second, .val (.long (j3 &&& (9223372036854775807 : Int64))), .second, .val (.long ((j3 &&& (9223372036854775807 : Int64)) - ((j3 &&& (9223372036854775807 : Int64)) / ((j2 &&& (9223372036854775807 : Int64)) + (1 : Int64))) * ((j2 &&& (9223372036854775807 : Int64)) + (1 : Int64)))), .second, .unset, .unset, .unset, .unset, .unset, .unset, .unset, .unset, .unset]) rfl ?_
        exact k
      exact fun t k => pre13 t (by rw [show (own_j0_45_0 j2 j3) = ((j3 &&& (9223372036854775807 : Int64)) - ((j3 &&& (9223372036854775807 : Int64)) / ((j2 &&& (9223372036854775807 : Int64)) + (1 : Int64))) * ((j2 &&& (9223372036854775807 : Int64)) + (1 : Int64))) from (if_pos hc45_12)] at k; exact k)
    · have pre14 : ∀ t, Steps p.tables e below (s₁.setTop (mkF m 64 #[.val (.int i1), .val (.long j2), .second, .val (.long j3), .second, .val (.long j4), .second, .val (.long j5), .second, .val (.int (own_j0_3_0 i1)), .val (.int (own_j0_16_0 i1)), .val (.long (j2 &&& (9223372036854775807 : Int64))), .second, .val (.long (j3 &&& (9223372036854775807 : Int64))), .second, .val (.long (j3 &&& (9223372036854775807 : Int64))), .second, .unset, .unset, .unset, .unset, .unset, .unset, .unset, .unset, .unset] [])) t → Steps p.tables e below (s₁.setTop (entryFrame m #[(.int i1), (.long j2), (.long j3), (.long j4), (.long j5)] maxLocals)) t := by
        intro t k
        refine pre11 _ ?_
        show Steps p.tables e below (s₁.setTop (mkF m 45 #[.val (.int i1), .val (.long j2), .second, .val (.long j3), .second, .val (.long j4), .second, .val (.long j5), .second, .val (.int (own_j0_3_0 i1)), .val (.int (own_j0_16_0 i1)), .val (.long (j2 &&& (9223372036854775807 : Int64))), .second, .val (.long (j3 &&& (9223372036854775807 : Int64))), .second, .unset, .unset, .unset, .unset, .unset, .unset, .unset, .unset, .unset, .unset, .unset] [(.int (lcmpW (j3 &&& (9223372036854775807 : Int64)) (j2 &&& (9223372036854775807 : Int64))))])) _
        refine XS.ifNo X0.here hx rfl (hb hby at_45) rfl ((if0 _ _).trans (flt (mt (lw_gt (j3 &&& (9223372036854775807 : Int64)) (j2 &&& (9223372036854775807 : Int64))).mp hc45_12)).2.2.1) ?_
        show Steps p.tables e below (s₁.setTop (mkF m 48 #[.val (.int i1), .val (.long j2), .second, .val (.long j3), .second, .val (.long j4), .second, .val (.long j5), .second, .val (.int (own_j0_3_0 i1)), .val (.int (own_j0_16_0 i1)), .val (.long (j2 &&& (9223372036854775807 : Int64))), .second, .val (.long (j3 &&& (9223372036854775807 : Int64))), .second, .unset, .unset, .unset, .unset, .unset, .unset, .unset, .unset, .unset, .unset, .unset] [])) _
        refine XS.lload X0.here hx rfl (hb hby at_48) rfl ?_
        show Steps p.tables e below (s₁.setTop (mkF m 50 #[.val (.int i1), .val (.long j2), .second, .val (.long j3), .second, .val (.long j4), .second, .val (.long j5), .second, .val (.int (own_j0_3_0 i1)), .val (.int (own_j0_16_0 i1)), .val (.long (j2 &&& (9223372036854775807 : Int64))), .second, .val (.long (j3 &&& (9223372036854775807 : Int64))), .second, .unset, .unset, .unset, .unset, .unset, .unset, .unset, .unset, .unset, .unset, .unset] [(.long (j3 &&& (9223372036854775807 : Int64)))])) _
        refine XS.lstore X0.here hx rfl (hb hby at_50) rfl (l' := #[.val (.int i1), .val (.long j2), .second, .val (.long j3), .second, .val (.long j4), .second, .val (.long j5), .second, .val (.int (own_j0_3_0 i1)), .val (.int (own_j0_16_0 i1)), .val (.long (j2 &&& (9223372036854775807 : Int64))), .second, .val (.long (j3 &&& (9223372036854775807 : Int64))), .second, .val (.long (j3 &&& (9223372036854775807 : Int64))), .second, .unset, .unset, .unset, .unset, .unset, .unset, .unset, .unset, .unset]) rfl ?_
        show Steps p.tables e below (s₁.setTop (mkF m 52 #[.val (.int i1), .val (.long j2), .second, .val (.long j3), .second, .val (.long j4), .second, .val (.long j5), .second, .val (.int (own_j0_3_0 i1)), .val (.int (own_j0_16_0 i1)), .val (.long (j2 &&& (9223372036854775807 : Int64))), .second, .val (.long (j3 &&& (9223372036854775807 : Int64))), .second, .val (.long (j3 &&& (9223372036854775807 : Int64))), .second, .unset, .unset, .unset, .unset, .unset, .unset, .unset, .unset, .unset] [])) _
        refine XS.goto X0.here hx rfl (pc0 := 52) (pc' := 64) rfl (hb hby at_52) (by decide) (by decide) ?_
        exact k
      exact fun t k => pre14 t (by rw [show (own_j0_45_0 j2 j3) = (j3 &&& (9223372036854775807 : Int64)) from (if_neg hc45_12)] at k; exact k)
  have pre16 : ∀ t, Steps p.tables e below (s₁.setTop (mkF m 66 #[.val (.int i1), .val (.long j2), .second, .val (.long j3), .second, .val (.long j4), .second, .val (.long j5), .second, .val (.int (own_j0_3_0 i1)), .val (.int (own_j0_16_0 i1)), .val (.long (j2 &&& (9223372036854775807 : Int64))), .second, .val (.long (j3 &&& (9223372036854775807 : Int64))), .second, .val (.long (own_j0_45_0 j2 j3)), .second, .unset, .unset, .unset, .unset, .unset, .unset, .unset, .unset, .unset] [(.int (own_j0_3_0 i1))])) t → Steps p.tables e below (s₁.setTop (entryFrame m #[(.int i1), (.long j2), (.long j3), (.long j4), (.long j5)] maxLocals)) t := by
    intro t k
    refine pre15 _ ?_
    show Steps p.tables e below (s₁.setTop (mkF m 64 #[.val (.int i1), .val (.long j2), .second, .val (.long j3), .second, .val (.long j4), .second, .val (.long j5), .second, .val (.int (own_j0_3_0 i1)), .val (.int (own_j0_16_0 i1)), .val (.long (j2 &&& (9223372036854775807 : Int64))), .second, .val (.long (j3 &&& (9223372036854775807 : Int64))), .second, .val (.long (own_j0_45_0 j2 j3)), .second, .unset, .unset, .unset, .unset, .unset, .unset, .unset, .unset, .unset] [])) _
    refine XS.iload X0.here hx rfl (hb hby at_64) rfl ?_
    exact k
  have pre23 : ∀ t, Steps p.tables e below (s₁.setTop (mkF m 90 #[.val (.int i1), .val (.long j2), .second, .val (.long j3), .second, .val (.long j4), .second, .val (.long j5), .second, .val (.int (own_j0_3_0 i1)), .val (.int (own_j0_16_0 i1)), .val (.long (j2 &&& (9223372036854775807 : Int64))), .second, .val (.long (j3 &&& (9223372036854775807 : Int64))), .second, .val (.long (own_j0_45_0 j2 j3)), .second, .val (.long (own_j0_66_0 i1 j4)), .second, .unset, .unset, .unset, .unset, .unset, .unset, .unset] [])) t → Steps p.tables e below (s₁.setTop (entryFrame m #[(.int i1), (.long j2), (.long j3), (.long j4), (.long j5)] maxLocals)) t := by
    by_cases hc66_17 : (own_j0_3_0 i1) = (0 : Int32)
    · have pre18 : ∀ t, Steps p.tables e below (s₁.setTop (mkF m 71 #[.val (.int i1), .val (.long j2), .second, .val (.long j3), .second, .val (.long j4), .second, .val (.long j5), .second, .val (.int (own_j0_3_0 i1)), .val (.int (own_j0_16_0 i1)), .val (.long (j2 &&& (9223372036854775807 : Int64))), .second, .val (.long (j3 &&& (9223372036854775807 : Int64))), .second, .val (.long (own_j0_45_0 j2 j3)), .second, .unset, .unset, .unset, .unset, .unset, .unset, .unset, .unset, .unset] [(.int (own_j0_16_0 i1))])) t → Steps p.tables e below (s₁.setTop (entryFrame m #[(.int i1), (.long j2), (.long j3), (.long j4), (.long j5)] maxLocals)) t := by
        intro t k
        refine pre16 _ ?_
        show Steps p.tables e below (s₁.setTop (mkF m 66 #[.val (.int i1), .val (.long j2), .second, .val (.long j3), .second, .val (.long j4), .second, .val (.long j5), .second, .val (.int (own_j0_3_0 i1)), .val (.int (own_j0_16_0 i1)), .val (.long (j2 &&& (9223372036854775807 : Int64))), .second, .val (.long (j3 &&& (9223372036854775807 : Int64))), .second, .val (.long (own_j0_45_0 j2 j3)), .second, .unset, .unset, .unset, .unset, .unset, .unset, .unset, .unset, .unset] [(.int (own_j0_3_0 i1))])) _
        refine XS.ifNo X0.here hx rfl (hb hby at_66) rfl ((if0 _ _).trans (teq hc66_17).2) ?_
        show Steps p.tables e below (s₁.setTop (mkF m 69 #[.val (.int i1), .val (.long j2), .second, .val (.long j3), .second, .val (.long j4), .second, .val (.long j5), .second, .val (.int (own_j0_3_0 i1)), .val (.int (own_j0_16_0 i1)), .val (.long (j2 &&& (9223372036854775807 : Int64))), .second, .val (.long (j3 &&& (9223372036854775807 : Int64))), .second, .val (.long (own_j0_45_0 j2 j3)), .second, .unset, .unset, .unset, .unset, .unset, .unset, .unset, .unset, .unset] [])) _
        refine XS.iload X0.here hx rfl (hb hby at_69) rfl ?_
        exact k
      by_cases hc71_19 : (own_j0_16_0 i1) = (0 : Int32)
      · have pre20 : ∀ t, Steps p.tables e below (s₁.setTop (mkF m 90 #[.val (.int i1), .val (.long j2), .second, .val (.long j3), .second, .val (.long j4), .second, .val (.long j5), .second, .val (.int (own_j0_3_0 i1)), .val (.int (own_j0_16_0 i1)), .val (.long (j2 &&& (9223372036854775807 : Int64))), .second, .val (.long (j3 &&& (9223372036854775807 : Int64))), .second, .val (.long (own_j0_45_0 j2 j3)), .second, .val (.long (j4 &&& (9223372036854775807 : Int64))), .second, .unset, .unset, .unset, .unset, .unset, .unset, .unset] [])) t → Steps p.tables e below (s₁.setTop (entryFrame m #[(.int i1), (.long j2), (.long j3), (.long j4), (.long j5)] maxLocals)) t := by
          intro t k
          refine pre18 _ ?_
          show Steps p.tables e below (s₁.setTop (mkF m 71 #[.val (.int i1), .val (.long j2), .second, .val (.long j3), .second, .val (.long j4), .second, .val (.long j5), .second, .val (.int (own_j0_3_0 i1)), .val (.int (own_j0_16_0 i1)), .val (.long (j2 &&& (9223372036854775807 : Int64))), .second, .val (.long (j3 &&& (9223372036854775807 : Int64))), .second, .val (.long (own_j0_45_0 j2 j3)), .second, .unset, .unset, .unset, .unset, .unset, .unset, .unset, .unset, .unset] [(.int (own_j0_16_0 i1))])) _
          refine XS.ifYes X0.here hx rfl (pc0 := 71) (pc' := 82) rfl (hb hby at_71) rfl ((if0 _ _).trans (teq hc71_19).1) (by decide) (by decide) ?_
          show Steps p.tables e below (s₁.setTop (mkF m 82 #[.val (.int i1), .val (.long j2), .second, .val (.long j3), .second, .val (.long j4), .second, .val (.long j5), .second, .val (.int (own_j0_3_0 i1)), .val (.int (own_j0_16_0 i1)), .val (.long (j2 &&& (9223372036854775807 : Int64))), .second, .val (.long (j3 &&& (9223372036854775807 : Int64))), .second, .val (.long (own_j0_45_0 j2 j3)), .second, .unset, .unset, .unset, .unset, .unset, .unset, .unset, .unset, .unset] [])) _
          refine XS.lload X0.here hx rfl (hb hby at_82) rfl ?_
          show Steps p.tables e below (s₁.setTop (mkF m 84 #[.val (.int i1), .val (.long j2), .second, .val (.long j3), .second, .val (.long j4), .second, .val (.long j5), .second, .val (.int (own_j0_3_0 i1)), .val (.int (own_j0_16_0 i1)), .val (.long (j2 &&& (9223372036854775807 : Int64))), .second, .val (.long (j3 &&& (9223372036854775807 : Int64))), .second, .val (.long (own_j0_45_0 j2 j3)), .second, .unset, .unset, .unset, .unset, .unset, .unset, .unset, .unset, .unset] [(.long j4)])) _
          refine X0.ldc2Long hx hown (mvT hZ (hw _ (List.mem_of_getElem? (i := 0) rfl))) (g := (mkF m 84 #[.val (.int i1), .val (.long j2), .second, .val (.long j3), .second, .val (.long j4), .second, .val (.long j5), .second, .val (.int (own_j0_3_0 i1)), .val (.int (own_j0_16_0 i1)), .val (.long (j2 &&& (9223372036854775807 : Int64))), .second, .val (.long (j3 &&& (9223372036854775807 : Int64))), .second, .val (.long (own_j0_45_0 j2 j3)), .second, .unset, .unset, .unset, .unset, .unset, .unset, .unset, .unset, .unset] [(.long j4)])) rfl (hb hby at_84) _ ?_
          show Steps p.tables e below (s₁.setTop (mkF m 87 #[.val (.int i1), .val (.long j2), .second, .val (.long j3), .second, .val (.long j4), .second, .val (.long j5), .second, .val (.int (own_j0_3_0 i1)), .val (.int (own_j0_16_0 i1)), .val (.long (j2 &&& (9223372036854775807 : Int64))), .second, .val (.long (j3 &&& (9223372036854775807 : Int64))), .second, .val (.long (own_j0_45_0 j2 j3)), .second, .unset, .unset, .unset, .unset, .unset, .unset, .unset, .unset, .unset] [(.long (9223372036854775807 : Int64)), (.long j4)])) _
          refine XS.land X0.here hx rfl (hb hby at_87) rfl ?_
          show Steps p.tables e below (s₁.setTop (mkF m 88 #[.val (.int i1), .val (.long j2), .second, .val (.long j3), .second, .val (.long j4), .second, .val (.long j5), .second, .val (.int (own_j0_3_0 i1)), .val (.int (own_j0_16_0 i1)), .val (.long (j2 &&& (9223372036854775807 : Int64))), .second, .val (.long (j3 &&& (9223372036854775807 : Int64))), .second, .val (.long (own_j0_45_0 j2 j3)), .second, .unset, .unset, .unset, .unset, .unset, .unset, .unset, .unset, .unset] [(.long (j4 &&& (9223372036854775807 : Int64)))])) _
          refine XS.lstore X0.here hx rfl (hb hby at_88) rfl (l' := #[.val (.int i1), .val (.long j2), .second, .val (.long j3), .second, .val (.long j4), .second, .val (.long j5), .second, .val (.int (own_j0_3_0 i1)), .val (.int (own_j0_16_0 i1)), .val (.long (j2 &&& (9223372036854775807 : Int64))), .second, .val (.long (j3 &&& (9223372036854775807 : Int64))), .second, .val (.long (own_j0_45_0 j2 j3)), .second, .val (.long (j4 &&& (9223372036854775807 : Int64))), .second, .unset, .unset, .unset, .unset, .unset, .unset, .unset]) rfl ?_
          exact k
        exact fun t k => pre20 t (by rw [show (own_j0_66_0 i1 j4) = (j4 &&& (9223372036854775807 : Int64)) from ((if_pos hc66_17).trans (if_pos hc71_19))] at k; exact k)
      · have pre21 : ∀ t, Steps p.tables e below (s₁.setTop (mkF m 90 #[.val (.int i1), .val (.long j2), .second, .val (.long j3), .second, .val (.long j4), .second, .val (.long j5), .second, .val (.int (own_j0_3_0 i1)), .val (.int (own_j0_16_0 i1)), .val (.long (j2 &&& (9223372036854775807 : Int64))), .second, .val (.long (j3 &&& (9223372036854775807 : Int64))), .second, .val (.long (own_j0_45_0 j2 j3)), .second, .val (.long (-1 : Int64)), .second, .unset, .unset, .unset, .unset, .unset, .unset, .unset] [])) t → Steps p.tables e below (s₁.setTop (entryFrame m #[(.int i1), (.long j2), (.long j3), (.long j4), (.long j5)] maxLocals)) t := by
          intro t k
          refine pre18 _ ?_
          show Steps p.tables e below (s₁.setTop (mkF m 71 #[.val (.int i1), .val (.long j2), .second, .val (.long j3), .second, .val (.long j4), .second, .val (.long j5), .second, .val (.int (own_j0_3_0 i1)), .val (.int (own_j0_16_0 i1)), .val (.long (j2 &&& (9223372036854775807 : Int64))), .second, .val (.long (j3 &&& (9223372036854775807 : Int64))), .second, .val (.long (own_j0_45_0 j2 j3)), .second, .unset, .unset, .unset, .unset, .unset, .unset, .unset, .unset, .unset] [(.int (own_j0_16_0 i1))])) _
          refine XS.ifNo X0.here hx rfl (hb hby at_71) rfl ((if0 _ _).trans (feq hc71_19).1) ?_
          show Steps p.tables e below (s₁.setTop (mkF m 74 #[.val (.int i1), .val (.long j2), .second, .val (.long j3), .second, .val (.long j4), .second, .val (.long j5), .second, .val (.int (own_j0_3_0 i1)), .val (.int (own_j0_16_0 i1)), .val (.long (j2 &&& (9223372036854775807 : Int64))), .second, .val (.long (j3 &&& (9223372036854775807 : Int64))), .second, .val (.long (own_j0_45_0 j2 j3)), .second, .unset, .unset, .unset, .unset, .unset, .unset, .unset, .unset, .unset] [])) _
          refine X0.ldc2Long hx hown (mvT hZ (hw _ (List.mem_of_getElem? (i := 1) rfl))) (g := (mkF m 74 #[.val (.int i1), .val (.long j2), .second, .val (.long j3), .second, .val (.long j4), .second, .val (.long j5), .second, .val (.int (own_j0_3_0 i1)), .val (.int (own_j0_16_0 i1)), .val (.long (j2 &&& (9223372036854775807 : Int64))), .second, .val (.long (j3 &&& (9223372036854775807 : Int64))), .second, .val (.long (own_j0_45_0 j2 j3)), .second, .unset, .unset, .unset, .unset, .unset, .unset, .unset, .unset, .unset] [])) rfl (hb hby at_74) _ ?_
          show Steps p.tables e below (s₁.setTop (mkF m 77 #[.val (.int i1), .val (.long j2), .second, .val (.long j3), .second, .val (.long j4), .second, .val (.long j5), .second, .val (.int (own_j0_3_0 i1)), .val (.int (own_j0_16_0 i1)), .val (.long (j2 &&& (9223372036854775807 : Int64))), .second, .val (.long (j3 &&& (9223372036854775807 : Int64))), .second, .val (.long (own_j0_45_0 j2 j3)), .second, .unset, .unset, .unset, .unset, .unset, .unset, .unset, .unset, .unset] [(.long (-1 : Int64))])) _
          refine XS.lstore X0.here hx rfl (hb hby at_77) rfl (l' := #[.val (.int i1), .val (.long j2), .second, .val (.long j3), .second, .val (.long j4), .second, .val (.long j5), .second, .val (.int (own_j0_3_0 i1)), .val (.int (own_j0_16_0 i1)), .val (.long (j2 &&& (9223372036854775807 : Int64))), .second, .val (.long (j3 &&& (9223372036854775807 : Int64))), .second, .val (.long (own_j0_45_0 j2 j3)), .second, .val (.long (-1 : Int64)), .second, .unset, .unset, .unset, .unset, .unset, .unset, .unset]) rfl ?_
          show Steps p.tables e below (s₁.setTop (mkF m 79 #[.val (.int i1), .val (.long j2), .second, .val (.long j3), .second, .val (.long j4), .second, .val (.long j5), .second, .val (.int (own_j0_3_0 i1)), .val (.int (own_j0_16_0 i1)), .val (.long (j2 &&& (9223372036854775807 : Int64))), .second, .val (.long (j3 &&& (9223372036854775807 : Int64))), .second, .val (.long (own_j0_45_0 j2 j3)), .second, .val (.long (-1 : Int64)), .second, .unset, .unset, .unset, .unset, .unset, .unset, .unset] [])) _
          refine XS.goto X0.here hx rfl (pc0 := 79) (pc' := 90) rfl (hb hby at_79) (by decide) (by decide) ?_
          exact k
        exact fun t k => pre21 t (by rw [show (own_j0_66_0 i1 j4) = (-1 : Int64) from ((if_pos hc66_17).trans (if_neg hc71_19))] at k; exact k)
    · have pre22 : ∀ t, Steps p.tables e below (s₁.setTop (mkF m 90 #[.val (.int i1), .val (.long j2), .second, .val (.long j3), .second, .val (.long j4), .second, .val (.long j5), .second, .val (.int (own_j0_3_0 i1)), .val (.int (own_j0_16_0 i1)), .val (.long (j2 &&& (9223372036854775807 : Int64))), .second, .val (.long (j3 &&& (9223372036854775807 : Int64))), .second, .val (.long (own_j0_45_0 j2 j3)), .second, .val (.long (-1 : Int64)), .second, .unset, .unset, .unset, .unset, .unset, .unset, .unset] [])) t → Steps p.tables e below (s₁.setTop (entryFrame m #[(.int i1), (.long j2), (.long j3), (.long j4), (.long j5)] maxLocals)) t := by
        intro t k
        refine pre16 _ ?_
        show Steps p.tables e below (s₁.setTop (mkF m 66 #[.val (.int i1), .val (.long j2), .second, .val (.long j3), .second, .val (.long j4), .second, .val (.long j5), .second, .val (.int (own_j0_3_0 i1)), .val (.int (own_j0_16_0 i1)), .val (.long (j2 &&& (9223372036854775807 : Int64))), .second, .val (.long (j3 &&& (9223372036854775807 : Int64))), .second, .val (.long (own_j0_45_0 j2 j3)), .second, .unset, .unset, .unset, .unset, .unset, .unset, .unset, .unset, .unset] [(.int (own_j0_3_0 i1))])) _
        refine XS.ifYes X0.here hx rfl (pc0 := 66) (pc' := 74) rfl (hb hby at_66) rfl ((if0 _ _).trans (feq hc66_17).2) (by decide) (by decide) ?_
        show Steps p.tables e below (s₁.setTop (mkF m 74 #[.val (.int i1), .val (.long j2), .second, .val (.long j3), .second, .val (.long j4), .second, .val (.long j5), .second, .val (.int (own_j0_3_0 i1)), .val (.int (own_j0_16_0 i1)), .val (.long (j2 &&& (9223372036854775807 : Int64))), .second, .val (.long (j3 &&& (9223372036854775807 : Int64))), .second, .val (.long (own_j0_45_0 j2 j3)), .second, .unset, .unset, .unset, .unset, .unset, .unset, .unset, .unset, .unset] [])) _
        refine X0.ldc2Long hx hown (mvT hZ (hw _ (List.mem_of_getElem? (i := 1) rfl))) (g := (mkF m 74 #[.val (.int i1), .val (.long j2), .second, .val (.long j3), .second, .val (.long j4), .second, .val (.long j5), .second, .val (.int (own_j0_3_0 i1)), .val (.int (own_j0_16_0 i1)), .val (.long (j2 &&& (9223372036854775807 : Int64))), .second, .val (.long (j3 &&& (9223372036854775807 : Int64))), .second, .val (.long (own_j0_45_0 j2 j3)), .second, .unset, .unset, .unset, .unset, .unset, .unset, .unset, .unset, .unset] [])) rfl (hb hby at_74) _ ?_
        show Steps p.tables e below (s₁.setTop (mkF m 77 #[.val (.int i1), .val (.long j2), .second, .val (.long j3), .second, .val (.long j4), .second, .val (.long j5), .second, .val (.int (own_j0_3_0 i1)), .val (.int (own_j0_16_0 i1)), .val (.long (j2 &&& (9223372036854775807 : Int64))), .second, .val (.long (j3 &&& (9223372036854775807 : Int64))), .second, .val (.long (own_j0_45_0 j2 j3)), .second, .unset, .unset, .unset, .unset, .unset, .unset, .unset, .unset, .unset] [(.long (-1 : Int64))])) _
        refine XS.lstore X0.here hx rfl (hb hby at_77) rfl (l' := #[.val (.int i1), .val (.long j2), .second, .val (.long j3), .second, .val (.long j4), .second, .val (.long j5), .second, .val (.int (own_j0_3_0 i1)), .val (.int (own_j0_16_0 i1)), .val (.long (j2 &&& (9223372036854775807 : Int64))), .second, .val (.long (j3 &&& (9223372036854775807 : Int64))), .second, .val (.long (own_j0_45_0 j2 j3)), .second, .val (.long (-1 : Int64)), .second, .unset, .unset, .unset, .unset, .unset, .unset, .unset]) rfl ?_
        show Steps p.tables e below (s₁.setTop (mkF m 79 #[.val (.int i1), .val (.long j2), .second, .val (.long j3), .second, .val (.long j4), .second, .val (.long j5), .second, .val (.int (own_j0_3_0 i1)), .val (.int (own_j0_16_0 i1)), .val (.long (j2 &&& (9223372036854775807 : Int64))), .second, .val (.long (j3 &&& (9223372036854775807 : Int64))), .second, .val (.long (own_j0_45_0 j2 j3)), .second, .val (.long (-1 : Int64)), .second, .unset, .unset, .unset, .unset, .unset, .unset, .unset] [])) _
        refine XS.goto X0.here hx rfl (pc0 := 79) (pc' := 90) rfl (hb hby at_79) (by decide) (by decide) ?_
        exact k
      exact fun t k => pre22 t (by rw [show (own_j0_66_0 i1 j4) = (-1 : Int64) from (if_neg hc66_17)] at k; exact k)
  have pre24 : ∀ t, Steps p.tables e below (s₁.setTop (mkF m 104 #[.val (.int i1), .val (.long j2), .second, .val (.long j3), .second, .val (.long j4), .second, .val (.long j5), .second, .val (.int (own_j0_3_0 i1)), .val (.int (own_j0_16_0 i1)), .val (.long (j2 &&& (9223372036854775807 : Int64))), .second, .val (.long (j3 &&& (9223372036854775807 : Int64))), .second, .val (.long (own_j0_45_0 j2 j3)), .second, .val (.long (own_j0_66_0 i1 j4)), .second, .val (.long (j5 &&& (9223372036854775807 : Int64))), .second, .unset, .unset, .unset, .unset, .unset] [(.int (lcmpW (own_j0_66_0 i1 j4) (-1 : Int64)))])) t → Steps p.tables e below (s₁.setTop (entryFrame m #[(.int i1), (.long j2), (.long j3), (.long j4), (.long j5)] maxLocals)) t := by
    intro t k
    refine pre23 _ ?_
    show Steps p.tables e below (s₁.setTop (mkF m 90 #[.val (.int i1), .val (.long j2), .second, .val (.long j3), .second, .val (.long j4), .second, .val (.long j5), .second, .val (.int (own_j0_3_0 i1)), .val (.int (own_j0_16_0 i1)), .val (.long (j2 &&& (9223372036854775807 : Int64))), .second, .val (.long (j3 &&& (9223372036854775807 : Int64))), .second, .val (.long (own_j0_45_0 j2 j3)), .second, .val (.long (own_j0_66_0 i1 j4)), .second, .unset, .unset, .unset, .unset, .unset, .unset, .unset] [])) _
    refine XS.lload X0.here hx rfl (hb hby at_90) rfl ?_
    show Steps p.tables e below (s₁.setTop (mkF m 92 #[.val (.int i1), .val (.long j2), .second, .val (.long j3), .second, .val (.long j4), .second, .val (.long j5), .second, .val (.int (own_j0_3_0 i1)), .val (.int (own_j0_16_0 i1)), .val (.long (j2 &&& (9223372036854775807 : Int64))), .second, .val (.long (j3 &&& (9223372036854775807 : Int64))), .second, .val (.long (own_j0_45_0 j2 j3)), .second, .val (.long (own_j0_66_0 i1 j4)), .second, .unset, .unset, .unset, .unset, .unset, .unset, .unset] [(.long j5)])) _
    refine X0.ldc2Long hx hown (mvT hZ (hw _ (List.mem_of_getElem? (i := 0) rfl))) (g := (mkF m 92 #[.val (.int i1), .val (.long j2), .second, .val (.long j3), .second, .val (.long j4), .second, .val (.long j5), .second, .val (.int (own_j0_3_0 i1)), .val (.int (own_j0_16_0 i1)), .val (.long (j2 &&& (9223372036854775807 : Int64))), .second, .val (.long (j3 &&& (9223372036854775807 : Int64))), .second, .val (.long (own_j0_45_0 j2 j3)), .second, .val (.long (own_j0_66_0 i1 j4)), .second, .unset, .unset, .unset, .unset, .unset, .unset, .unset] [(.long j5)])) rfl (hb hby at_92) _ ?_
    show Steps p.tables e below (s₁.setTop (mkF m 95 #[.val (.int i1), .val (.long j2), .second, .val (.long j3), .second, .val (.long j4), .second, .val (.long j5), .second, .val (.int (own_j0_3_0 i1)), .val (.int (own_j0_16_0 i1)), .val (.long (j2 &&& (9223372036854775807 : Int64))), .second, .val (.long (j3 &&& (9223372036854775807 : Int64))), .second, .val (.long (own_j0_45_0 j2 j3)), .second, .val (.long (own_j0_66_0 i1 j4)), .second, .unset, .unset, .unset, .unset, .unset, .unset, .unset] [(.long (9223372036854775807 : Int64)), (.long j5)])) _
    refine XS.land X0.here hx rfl (hb hby at_95) rfl ?_
    show Steps p.tables e below (s₁.setTop (mkF m 96 #[.val (.int i1), .val (.long j2), .second, .val (.long j3), .second, .val (.long j4), .second, .val (.long j5), .second, .val (.int (own_j0_3_0 i1)), .val (.int (own_j0_16_0 i1)), .val (.long (j2 &&& (9223372036854775807 : Int64))), .second, .val (.long (j3 &&& (9223372036854775807 : Int64))), .second, .val (.long (own_j0_45_0 j2 j3)), .second, .val (.long (own_j0_66_0 i1 j4)), .second, .unset, .unset, .unset, .unset, .unset, .unset, .unset] [(.long (j5 &&& (9223372036854775807 : Int64)))])) _
    refine XS.lstore X0.here hx rfl (hb hby at_96) rfl (l' := #[.val (.int i1), .val (.long j2), .second, .val (.long j3), .second, .val (.long j4), .second, .val (.long j5), .second, .val (.int (own_j0_3_0 i1)), .val (.int (own_j0_16_0 i1)), .val (.long (j2 &&& (9223372036854775807 : Int64))), .second, .val (.long (j3 &&& (9223372036854775807 : Int64))), .second, .val (.long (own_j0_45_0 j2 j3)), .second, .val (.long (own_j0_66_0 i1 j4)), .second, .val (.long (j5 &&& (9223372036854775807 : Int64))), .second, .unset, .unset, .unset, .unset, .unset]) rfl ?_
    show Steps p.tables e below (s₁.setTop (mkF m 98 #[.val (.int i1), .val (.long j2), .second, .val (.long j3), .second, .val (.long j4), .second, .val (.long j5), .second, .val (.int (own_j0_3_0 i1)), .val (.int (own_j0_16_0 i1)), .val (.long (j2 &&& (9223372036854775807 : Int64))), .second, .val (.long (j3 &&& (9223372036854775807 : Int64))), .second, .val (.long (own_j0_45_0 j2 j3)), .second, .val (.long (own_j0_66_0 i1 j4)), .second, .val (.long (j5 &&& (9223372036854775807 : Int64))), .second, .unset, .unset, .unset, .unset, .unset] [])) _
    refine XS.lload X0.here hx rfl (hb hby at_98) rfl ?_
    show Steps p.tables e below (s₁.setTop (mkF m 100 #[.val (.int i1), .val (.long j2), .second, .val (.long j3), .second, .val (.long j4), .second, .val (.long j5), .second, .val (.int (own_j0_3_0 i1)), .val (.int (own_j0_16_0 i1)), .val (.long (j2 &&& (9223372036854775807 : Int64))), .second, .val (.long (j3 &&& (9223372036854775807 : Int64))), .second, .val (.long (own_j0_45_0 j2 j3)), .second, .val (.long (own_j0_66_0 i1 j4)), .second, .val (.long (j5 &&& (9223372036854775807 : Int64))), .second, .unset, .unset, .unset, .unset, .unset] [(.long (own_j0_66_0 i1 j4))])) _
    refine X0.ldc2Long hx hown (mvT hZ (hw _ (List.mem_of_getElem? (i := 1) rfl))) (g := (mkF m 100 #[.val (.int i1), .val (.long j2), .second, .val (.long j3), .second, .val (.long j4), .second, .val (.long j5), .second, .val (.int (own_j0_3_0 i1)), .val (.int (own_j0_16_0 i1)), .val (.long (j2 &&& (9223372036854775807 : Int64))), .second, .val (.long (j3 &&& (9223372036854775807 : Int64))), .second, .val (.long (own_j0_45_0 j2 j3)), .second, .val (.long (own_j0_66_0 i1 j4)), .second, .val (.long (j5 &&& (9223372036854775807 : Int64))), .second, .unset, .unset, .unset, .unset, .unset] [(.long (own_j0_66_0 i1 j4))])) rfl (hb hby at_100) _ ?_
    show Steps p.tables e below (s₁.setTop (mkF m 103 #[.val (.int i1), .val (.long j2), .second, .val (.long j3), .second, .val (.long j4), .second, .val (.long j5), .second, .val (.int (own_j0_3_0 i1)), .val (.int (own_j0_16_0 i1)), .val (.long (j2 &&& (9223372036854775807 : Int64))), .second, .val (.long (j3 &&& (9223372036854775807 : Int64))), .second, .val (.long (own_j0_45_0 j2 j3)), .second, .val (.long (own_j0_66_0 i1 j4)), .second, .val (.long (j5 &&& (9223372036854775807 : Int64))), .second, .unset, .unset, .unset, .unset, .unset] [(.long (-1 : Int64)), (.long (own_j0_66_0 i1 j4))])) _
    refine XS.lcmp X0.here hx rfl (hb hby at_103) rfl ?_
    exact k
  obtain ⟨T29, Lq29, X29, N29, e29, pre29⟩ : ∃ (T' : State) (locs' : List Loc), Stand p l e room_1 s m #[(.int i1), (.long j2), (.long j3), (.long j4), (.long j5)] below meth c T' locs' 0 0 ∧ Fr n0 locs' ∧ T'.heap = h0 ∧ ∀ t, Steps p.tables e below (T'.setTop (mkF m 122 #[.val (.int i1), .val (.long j2), .second, .val (.long j3), .second, .val (.long j4), .second, .val (.long j5), .second, .val (.int (own_j0_3_0 i1)), .val (.int (own_j0_16_0 i1)), .val (.long (j2 &&& (9223372036854775807 : Int64))), .second, .val (.long (j3 &&& (9223372036854775807 : Int64))), .second, .val (.long (own_j0_45_0 j2 j3)), .second, .val (.long (own_j0_66_0 i1 j4)), .second, .val (.long (j5 &&& (9223372036854775807 : Int64))), .second, .val (.long (own_j0_104_0 i1 j4)), .second, .unset, .unset, .unset] [])) t → Steps p.tables e below (s₁.setTop (entryFrame m #[(.int i1), (.long j2), (.long j3), (.long j4), (.long j5)] maxLocals)) t := by
    by_cases hc104_25 : (own_j0_66_0 i1 j4) = (-1 : Int64)
    · have pre26 : ∀ t, Steps p.tables e below (s₁.setTop (mkF m 122 #[.val (.int i1), .val (.long j2), .second, .val (.long j3), .second, .val (.long j4), .second, .val (.long j5), .second, .val (.int (own_j0_3_0 i1)), .val (.int (own_j0_16_0 i1)), .val (.long (j2 &&& (9223372036854775807 : Int64))), .second, .val (.long (j3 &&& (9223372036854775807 : Int64))), .second, .val (.long (own_j0_45_0 j2 j3)), .second, .val (.long (own_j0_66_0 i1 j4)), .second, .val (.long (j5 &&& (9223372036854775807 : Int64))), .second, .val (.long (-1 : Int64)), .second, .unset, .unset, .unset] [])) t → Steps p.tables e below (s₁.setTop (entryFrame m #[(.int i1), (.long j2), (.long j3), (.long j4), (.long j5)] maxLocals)) t := by
        intro t k
        refine pre24 _ ?_
        show Steps p.tables e below (s₁.setTop (mkF m 104 #[.val (.int i1), .val (.long j2), .second, .val (.long j3), .second, .val (.long j4), .second, .val (.long j5), .second, .val (.int (own_j0_3_0 i1)), .val (.int (own_j0_16_0 i1)), .val (.long (j2 &&& (9223372036854775807 : Int64))), .second, .val (.long (j3 &&& (9223372036854775807 : Int64))), .second, .val (.long (own_j0_45_0 j2 j3)), .second, .val (.long (own_j0_66_0 i1 j4)), .second, .val (.long (j5 &&& (9223372036854775807 : Int64))), .second, .unset, .unset, .unset, .unset, .unset] [(.int (lcmpW (own_j0_66_0 i1 j4) (-1 : Int64)))])) _
        refine XS.ifNo X0.here hx rfl (hb hby at_104) rfl ((if0 _ _).trans (teq ((lw_eq (own_j0_66_0 i1 j4) (-1 : Int64)).mpr hc104_25)).2) ?_
        show Steps p.tables e below (s₁.setTop (mkF m 107 #[.val (.int i1), .val (.long j2), .second, .val (.long j3), .second, .val (.long j4), .second, .val (.long j5), .second, .val (.int (own_j0_3_0 i1)), .val (.int (own_j0_16_0 i1)), .val (.long (j2 &&& (9223372036854775807 : Int64))), .second, .val (.long (j3 &&& (9223372036854775807 : Int64))), .second, .val (.long (own_j0_45_0 j2 j3)), .second, .val (.long (own_j0_66_0 i1 j4)), .second, .val (.long (j5 &&& (9223372036854775807 : Int64))), .second, .unset, .unset, .unset, .unset, .unset] [])) _
        refine X0.ldc2Long hx hown (mvT hZ (hw _ (List.mem_of_getElem? (i := 1) rfl))) (g := (mkF m 107 #[.val (.int i1), .val (.long j2), .second, .val (.long j3), .second, .val (.long j4), .second, .val (.long j5), .second, .val (.int (own_j0_3_0 i1)), .val (.int (own_j0_16_0 i1)), .val (.long (j2 &&& (9223372036854775807 : Int64))), .second, .val (.long (j3 &&& (9223372036854775807 : Int64))), .second, .val (.long (own_j0_45_0 j2 j3)), .second, .val (.long (own_j0_66_0 i1 j4)), .second, .val (.long (j5 &&& (9223372036854775807 : Int64))), .second, .unset, .unset, .unset, .unset, .unset] [])) rfl (hb hby at_107) _ ?_
        show Steps p.tables e below (s₁.setTop (mkF m 110 #[.val (.int i1), .val (.long j2), .second, .val (.long j3), .second, .val (.long j4), .second, .val (.long j5), .second, .val (.int (own_j0_3_0 i1)), .val (.int (own_j0_16_0 i1)), .val (.long (j2 &&& (9223372036854775807 : Int64))), .second, .val (.long (j3 &&& (9223372036854775807 : Int64))), .second, .val (.long (own_j0_45_0 j2 j3)), .second, .val (.long (own_j0_66_0 i1 j4)), .second, .val (.long (j5 &&& (9223372036854775807 : Int64))), .second, .unset, .unset, .unset, .unset, .unset] [(.long (-1 : Int64))])) _
        refine XS.lstore X0.here hx rfl (hb hby at_110) rfl (l' := #[.val (.int i1), .val (.long j2), .second, .val (.long j3), .second, .val (.long j4), .second, .val (.long j5), .second, .val (.int (own_j0_3_0 i1)), .val (.int (own_j0_16_0 i1)), .val (.long (j2 &&& (9223372036854775807 : Int64))), .second, .val (.long (j3 &&& (9223372036854775807 : Int64))), .second, .val (.long (own_j0_45_0 j2 j3)), .second, .val (.long (own_j0_66_0 i1 j4)), .second, .val (.long (j5 &&& (9223372036854775807 : Int64))), .second, .val (.long (-1 : Int64)), .second, .unset, .unset, .unset]) rfl ?_
        show Steps p.tables e below (s₁.setTop (mkF m 112 #[.val (.int i1), .val (.long j2), .second, .val (.long j3), .second, .val (.long j4), .second, .val (.long j5), .second, .val (.int (own_j0_3_0 i1)), .val (.int (own_j0_16_0 i1)), .val (.long (j2 &&& (9223372036854775807 : Int64))), .second, .val (.long (j3 &&& (9223372036854775807 : Int64))), .second, .val (.long (own_j0_45_0 j2 j3)), .second, .val (.long (own_j0_66_0 i1 j4)), .second, .val (.long (j5 &&& (9223372036854775807 : Int64))), .second, .val (.long (-1 : Int64)), .second, .unset, .unset, .unset] [])) _
        refine XS.goto X0.here hx rfl (pc0 := 112) (pc' := 122) rfl (hb hby at_112) (by decide) (by decide) ?_
        exact k
      exact ⟨s₁, _, X0, N0, e0, fun t k => pre26 t (by rw [show (own_j0_104_0 i1 j4) = (-1 : Int64) from (if_pos hc104_25)] at k; exact k)⟩
    · obtain ⟨_, _, ⟨T27, L27, k27, n27⟩, -, X27, ⟨Lc27, hQ27, l27, y27, z27⟩, st27⟩ := Jvm.LawKit.callS X0 hx (y := (⟨"com/example/burst/burst/MemoryRuleDecisionPinLaw", "ceilMillis", "(J)J"⟩ : MethodName)) hown (mvT hZ (hw _ (List.mem_of_getElem? (i := 2) rfl))) (mvT hZ (hw _ (List.mem_of_getElem? (i := 3) rfl))) (mvT hZ (hw _ (List.mem_of_getElem? (i := 4) rfl))) (mvT hZ (hw _ (List.mem_of_getElem? (i := 5) rfl))) (by decide) (backOf (W := 0) (rm1 l Z a0 hw [] (own_j0_66_0 i1 j4) h0 n0 (Nat.le_trans Z0 (Keep.refl h0 []).1) ) hZ (hw _ (List.mem_of_getElem? (i := 5) rfl)) (hw _ (List.mem_of_getElem? (i := 4) rfl)) (by decide) (by decide)) (g := (mkF m 117 #[.val (.int i1), .val (.long j2), .second, .val (.long j3), .second, .val (.long j4), .second, .val (.long j5), .second, .val (.int (own_j0_3_0 i1)), .val (.int (own_j0_16_0 i1)), .val (.long (j2 &&& (9223372036854775807 : Int64))), .second, .val (.long (j3 &&& (9223372036854775807 : Int64))), .second, .val (.long (own_j0_45_0 j2 j3)), .second, .val (.long (own_j0_66_0 i1 j4)), .second, .val (.long (j5 &&& (9223372036854775807 : Int64))), .second, .unset, .unset, .unset, .unset, .unset] [(.long (own_j0_66_0 i1 j4))])) rfl (by rw [hml]; rfl) (argsL := [(.long (own_j0_66_0 i1 j4))]) (rest := []) (lenOf pd_0 rfl) rfl (by show 2 * 0 + _ ≤ _; exact Nat.le_of_eq rfl) (hb hby at_117) (fun _ _ => ⟨rfl, e0, (by decide : 0 + 0 ≤ _), (by decide : 0 + 0 ≤ _)⟩)
      dsimp only [Pt.U, Pt.locs, Pt.cells, Pt.slots] at X27 l27 y27 z27 st27 hQ27
      subst l27 y27 z27
      obtain ⟨rfl, Nq27, e27⟩ := hQ27
      have N27 := Fr.app N0 Nq27
      have pre28 : ∀ t, Steps p.tables e below (T27.setTop (mkF m 122 #[.val (.int i1), .val (.long j2), .second, .val (.long j3), .second, .val (.long j4), .second, .val (.long j5), .second, .val (.int (own_j0_3_0 i1)), .val (.int (own_j0_16_0 i1)), .val (.long (j2 &&& (9223372036854775807 : Int64))), .second, .val (.long (j3 &&& (9223372036854775807 : Int64))), .second, .val (.long (own_j0_45_0 j2 j3)), .second, .val (.long (own_j0_66_0 i1 j4)), .second, .val (.long (j5 &&& (9223372036854775807 : Int64))), .second, .val (.long (own_r1 (own_j0_66_0 i1 j4))), .second, .unset, .unset, .unset] [])) t → Steps p.tables e below (s₁.setTop (entryFrame m #[(.int i1), (.long j2), (.long j3), (.long j4), (.long j5)] maxLocals)) t := by
        intro t k
        refine pre24 _ ?_
        show Steps p.tables e below (s₁.setTop (mkF m 104 #[.val (.int i1), .val (.long j2), .second, .val (.long j3), .second, .val (.long j4), .second, .val (.long j5), .second, .val (.int (own_j0_3_0 i1)), .val (.int (own_j0_16_0 i1)), .val (.long (j2 &&& (9223372036854775807 : Int64))), .second, .val (.long (j3 &&& (9223372036854775807 : Int64))), .second, .val (.long (own_j0_45_0 j2 j3)), .second, .val (.long (own_j0_66_0 i1 j4)), .second, .val (.long (j5 &&& (9223372036854775807 : Int64))), .second, .unset, .unset, .unset, .unset, .unset] [(.int (lcmpW (own_j0_66_0 i1 j4) (-1 : Int64)))])) _
        refine XS.ifYes X0.here hx rfl (pc0 := 104) (pc' := 115) rfl (hb hby at_104) rfl ((if0 _ _).trans (feq (mt (lw_eq (own_j0_66_0 i1 j4) (-1 : Int64)).mp hc104_25)).2) (by decide) (by decide) ?_
        show Steps p.tables e below (s₁.setTop (mkF m 115 #[.val (.int i1), .val (.long j2), .second, .val (.long j3), .second, .val (.long j4), .second, .val (.long j5), .second, .val (.int (own_j0_3_0 i1)), .val (.int (own_j0_16_0 i1)), .val (.long (j2 &&& (9223372036854775807 : Int64))), .second, .val (.long (j3 &&& (9223372036854775807 : Int64))), .second, .val (.long (own_j0_45_0 j2 j3)), .second, .val (.long (own_j0_66_0 i1 j4)), .second, .val (.long (j5 &&& (9223372036854775807 : Int64))), .second, .unset, .unset, .unset, .unset, .unset] [])) _
        refine XS.lload X0.here hx rfl (hb hby at_115) rfl ?_
        show Steps p.tables e below (s₁.setTop (mkF m 117 #[.val (.int i1), .val (.long j2), .second, .val (.long j3), .second, .val (.long j4), .second, .val (.long j5), .second, .val (.int (own_j0_3_0 i1)), .val (.int (own_j0_16_0 i1)), .val (.long (j2 &&& (9223372036854775807 : Int64))), .second, .val (.long (j3 &&& (9223372036854775807 : Int64))), .second, .val (.long (own_j0_45_0 j2 j3)), .second, .val (.long (own_j0_66_0 i1 j4)), .second, .val (.long (j5 &&& (9223372036854775807 : Int64))), .second, .unset, .unset, .unset, .unset, .unset] [(.long (own_j0_66_0 i1 j4))])) _
        refine st27 _ ?_
        show Steps p.tables e below (T27.setTop (mkF m 120 #[.val (.int i1), .val (.long j2), .second, .val (.long j3), .second, .val (.long j4), .second, .val (.long j5), .second, .val (.int (own_j0_3_0 i1)), .val (.int (own_j0_16_0 i1)), .val (.long (j2 &&& (9223372036854775807 : Int64))), .second, .val (.long (j3 &&& (9223372036854775807 : Int64))), .second, .val (.long (own_j0_45_0 j2 j3)), .second, .val (.long (own_j0_66_0 i1 j4)), .second, .val (.long (j5 &&& (9223372036854775807 : Int64))), .second, .unset, .unset, .unset, .unset, .unset] [(.long (own_r1 (own_j0_66_0 i1 j4)))])) _
        refine XS.lstore X27.here hx rfl (hb hby at_120) rfl (l' := #[.val (.int i1), .val (.long j2), .second, .val (.long j3), .second, .val (.long j4), .second, .val (.long j5), .second, .val (.int (own_j0_3_0 i1)), .val (.int (own_j0_16_0 i1)), .val (.long (j2 &&& (9223372036854775807 : Int64))), .second, .val (.long (j3 &&& (9223372036854775807 : Int64))), .second, .val (.long (own_j0_45_0 j2 j3)), .second, .val (.long (own_j0_66_0 i1 j4)), .second, .val (.long (j5 &&& (9223372036854775807 : Int64))), .second, .val (.long (own_r1 (own_j0_66_0 i1 j4))), .second, .unset, .unset, .unset]) rfl ?_
        exact k
      exact ⟨T27, _, X27, N27, e27, fun t k => pre28 t (by rw [show (own_j0_104_0 i1 j4) = (own_r1 (own_j0_66_0 i1 j4)) from (if_neg hc104_25)] at k; exact k)⟩
  obtain ⟨_, _, ⟨T30, L30, k30, n30⟩, -, X30, ⟨Lc30, hQ30, l30, y30, z30⟩, st30⟩ := Jvm.LawKit.callS X29 hx (y := (⟨"com/example/burst/burst/MemoryRuleDecisionPinLaw", "ceilMillis", "(J)J"⟩ : MethodName)) hown (mvT hZ (hw _ (List.mem_of_getElem? (i := 2) rfl))) (mvT hZ (hw _ (List.mem_of_getElem? (i := 3) rfl))) (mvT hZ (hw _ (List.mem_of_getElem? (i := 4) rfl))) (mvT hZ (hw _ (List.mem_of_getElem? (i := 5) rfl))) (by decide) (backOf (W := 0) (rm1 l Z a0 hw [] (j5 &&& (9223372036854775807 : Int64)) h0 n0 (Nat.le_trans Z0 (Keep.refl h0 []).1) ) hZ (hw _ (List.mem_of_getElem? (i := 5) rfl)) (hw _ (List.mem_of_getElem? (i := 4) rfl)) (by decide) (by decide)) (g := (mkF m 124 #[.val (.int i1), .val (.long j2), .second, .val (.long j3), .second, .val (.long j4), .second, .val (.long j5), .second, .val (.int (own_j0_3_0 i1)), .val (.int (own_j0_16_0 i1)), .val (.long (j2 &&& (9223372036854775807 : Int64))), .second, .val (.long (j3 &&& (9223372036854775807 : Int64))), .second, .val (.long (own_j0_45_0 j2 j3)), .second, .val (.long (own_j0_66_0 i1 j4)), .second, .val (.long (j5 &&& (9223372036854775807 : Int64))), .second, .val (.long (own_j0_104_0 i1 j4)), .second, .unset, .unset, .unset] [(.long (j5 &&& (9223372036854775807 : Int64)))])) rfl (by rw [hml]; rfl) (argsL := [(.long (j5 &&& (9223372036854775807 : Int64)))]) (rest := []) (lenOf pd_0 rfl) rfl (by show 2 * 0 + _ ≤ _; exact Nat.le_of_eq rfl) (hb hby at_124) (fun _ _ => ⟨rfl, e29, (by decide : 0 + 0 ≤ _), (by decide : 0 + 0 ≤ _)⟩)
  dsimp only [Pt.U, Pt.locs, Pt.cells, Pt.slots] at X30 l30 y30 z30 st30 hQ30
  subst l30 y30 z30
  obtain ⟨rfl, Nq30, e30⟩ := hQ30
  have N30 := Fr.app N29 Nq30
  obtain ⟨_, _, ⟨T31, L31, k31, n31⟩, -, X31, ⟨Lc31, hQ31, l31, y31, z31⟩, st31⟩ := Jvm.LawKit.callS X30 hx (y := (⟨"com/example/burst/burst/MemoryRule", "decision", "(ZJJJJ)Lcom/example/burst/burst/Decision;"⟩ : MethodName)) hown (mvT hZ (hw _ (List.mem_of_getElem? (i := 7) rfl))) (mvT hZ (hw _ (List.mem_of_getElem? (i := 8) rfl))) (mvT hZ (hw _ (List.mem_of_getElem? (i := 9) rfl))) (mvT hZ (hw _ (List.mem_of_getElem? (i := 10) rfl))) (by decide) (backOf (W := 0) (rm2 l Z a0 hw [] (own_j0_3_0 i1) (j2 &&& (9223372036854775807 : Int64)) (own_j0_45_0 j2 j3) (own_j0_66_0 i1 j4) (j5 &&& (9223372036854775807 : Int64)) h0 n0 (Nat.le_trans Z0 (Keep.refl h0 []).1) (own_ob0_g139_0 j2 j3) (own_ob0_g139_1 j2 j3) (own_ob0_g139_2 i1 j4) (own_ob0_g139_3 i1 j4) (own_ob0_g139_4 j5)) hZ (hw _ (List.mem_of_getElem? (i := 10) rfl)) (hw _ (List.mem_of_getElem? (i := 9) rfl)) (by decide) (by decide)) (g := (mkF m 139 #[.val (.int i1), .val (.long j2), .second, .val (.long j3), .second, .val (.long j4), .second, .val (.long j5), .second, .val (.int (own_j0_3_0 i1)), .val (.int (own_j0_16_0 i1)), .val (.long (j2 &&& (9223372036854775807 : Int64))), .second, .val (.long (j3 &&& (9223372036854775807 : Int64))), .second, .val (.long (own_j0_45_0 j2 j3)), .second, .val (.long (own_j0_66_0 i1 j4)), .second, .val (.long (j5 &&& (9223372036854775807 : Int64))), .second, .val (.long (own_j0_104_0 i1 j4)), .second, .val (.long (own_r1 (j5 &&& (9223372036854775807 : Int64)))), .second, .unset] [(.long (j5 &&& (9223372036854775807 : Int64))), (.long (own_j0_66_0 i1 j4)), (.long (own_j0_45_0 j2 j3)), (.long (j2 &&& (9223372036854775807 : Int64))), (.int (own_j0_3_0 i1))])) rfl (by rw [hml]; rfl) (argsL := [(.int (own_j0_3_0 i1)), (.long (j2 &&& (9223372036854775807 : Int64))), (.long (own_j0_45_0 j2 j3)), (.long (own_j0_66_0 i1 j4)), (.long (j5 &&& (9223372036854775807 : Int64)))]) (rest := []) (lenOf pd_5 rfl) rfl (by show 2 * 0 + _ ≤ _; exact Nat.le_of_eq rfl) (hb hby at_139) (fun _ _ => ⟨rfl, e30, (by decide : 0 + 1 ≤ _), (by decide : 0 + 6 ≤ _)⟩)
  dsimp only [Pt.U, Pt.locs, Pt.cells, Pt.slots] at X31 l31 y31 z31 st31 hQ31
  subst l31 y31 z31
  obtain ⟨b31_0, rfl, Nq31, Kq31, sq31_0, f31_0, f31_1, f31_2, f31_3, f31_4, f31_5, f31_6⟩ := hQ31
  have sz_b31_0 : h0.size ≤ b31_0 := Nat.le_trans (Keep.refl h0 []).1 sq31_0
  have K32 : Keep h0 T31.heap [] := (Keep.refl h0 []).trans Kq31 all0
  have N31 := Fr.app N30 Nq31
  obtain ⟨cq33, kq33, q33a, q33b, q33c⟩ := isOf hZ rfl f31_0
  obtain ⟨_, _, ⟨T33, L33, k33, n33⟩, -, X33, ⟨Lc33, hQ33, l33, y33, z33⟩, st33⟩ := X31.virtualBack hx (y := (⟨"com/example/burst/burst/Decision", "allowed", "()Z"⟩ : MethodName)) (z := (⟨"com/example/burst/burst/Decision", "allowed", "()Z"⟩ : MethodName)) hown (mvT hZ (hw _ (List.mem_of_getElem? (i := 50) rfl))) (mvT hZ (hw _ (List.mem_of_getElem? (i := 51) rfl))) (notFace_of_selects (args := #[]) (mvT hZ (hw _ (List.mem_of_getElem? (i := 53) rfl)))) (mvT hZ (hw _ (List.mem_of_getElem? (i := 53) rfl))) (mvT hZ (hw _ (List.mem_of_getElem? (i := 52) rfl))) (by decide) (backOf (W := 0) (rm9 l Z a0 hw [] b31_0 (nar .boolean (own_j0_3_0 i1)) T31.heap n0 (Nat.le_trans Z0 K32.1) f31_1) hZ (hw _ (List.mem_of_getElem? (i := 54) rfl)) (hw _ (List.mem_of_getElem? (i := 22) rfl)) (by decide) (by decide)) q33a q33c (g := (mkF m 146 #[.val (.int i1), .val (.long j2), .second, .val (.long j3), .second, .val (.long j4), .second, .val (.long j5), .second, .val (.int (own_j0_3_0 i1)), .val (.int (own_j0_16_0 i1)), .val (.long (j2 &&& (9223372036854775807 : Int64))), .second, .val (.long (j3 &&& (9223372036854775807 : Int64))), .second, .val (.long (own_j0_45_0 j2 j3)), .second, .val (.long (own_j0_66_0 i1 j4)), .second, .val (.long (j5 &&& (9223372036854775807 : Int64))), .second, .val (.long (own_j0_104_0 i1 j4)), .second, .val (.long (own_r1 (j5 &&& (9223372036854775807 : Int64)))), .second, .val (.ref b31_0)] [(.ref b31_0)])) rfl (by rw [hml]; rfl) (Steps.refl _) (argsL := []) (rest := []) (lenOf pd_6 rfl) rfl (by show 2 * 0 + _ ≤ _; exact Nat.le_of_eq rfl) (hb hby at_146) (fun _ _ => ⟨rfl, rfl, (by decide : 1 + 0 ≤ _), (by decide : 6 + 0 ≤ _)⟩)
  dsimp only [Pt.U, Pt.locs, Pt.cells, Pt.slots] at X33 l33 y33 z33 st33 hQ33
  subst l33 y33 z33
  obtain ⟨rfl, Nq33, e33⟩ := hQ33
  have N33 := Fr.app N31 Nq33
  have pre34 : ∀ t, Steps p.tables e below (T33.setTop (mkF m 151 #[.val (.int i1), .val (.long j2), .second, .val (.long j3), .second, .val (.long j4), .second, .val (.long j5), .second, .val (.int (own_j0_3_0 i1)), .val (.int (own_j0_16_0 i1)), .val (.long (j2 &&& (9223372036854775807 : Int64))), .second, .val (.long (j3 &&& (9223372036854775807 : Int64))), .second, .val (.long (own_j0_45_0 j2 j3)), .second, .val (.long (own_j0_66_0 i1 j4)), .second, .val (.long (j5 &&& (9223372036854775807 : Int64))), .second, .val (.long (own_j0_104_0 i1 j4)), .second, .val (.long (own_r1 (j5 &&& (9223372036854775807 : Int64)))), .second, .val (.ref b31_0)] [(.int (own_j0_3_0 i1)), (.int (nar .boolean (nar .boolean (own_j0_3_0 i1))))])) t → Steps p.tables e below (s₁.setTop (entryFrame m #[(.int i1), (.long j2), (.long j3), (.long j4), (.long j5)] maxLocals)) t := by
    intro t k
    refine pre29 _ ?_
    show Steps p.tables e below (T29.setTop (mkF m 122 #[.val (.int i1), .val (.long j2), .second, .val (.long j3), .second, .val (.long j4), .second, .val (.long j5), .second, .val (.int (own_j0_3_0 i1)), .val (.int (own_j0_16_0 i1)), .val (.long (j2 &&& (9223372036854775807 : Int64))), .second, .val (.long (j3 &&& (9223372036854775807 : Int64))), .second, .val (.long (own_j0_45_0 j2 j3)), .second, .val (.long (own_j0_66_0 i1 j4)), .second, .val (.long (j5 &&& (9223372036854775807 : Int64))), .second, .val (.long (own_j0_104_0 i1 j4)), .second, .unset, .unset, .unset] [])) _
    refine XS.lload X29.here hx rfl (hb hby at_122) rfl ?_
    show Steps p.tables e below (T29.setTop (mkF m 124 #[.val (.int i1), .val (.long j2), .second, .val (.long j3), .second, .val (.long j4), .second, .val (.long j5), .second, .val (.int (own_j0_3_0 i1)), .val (.int (own_j0_16_0 i1)), .val (.long (j2 &&& (9223372036854775807 : Int64))), .second, .val (.long (j3 &&& (9223372036854775807 : Int64))), .second, .val (.long (own_j0_45_0 j2 j3)), .second, .val (.long (own_j0_66_0 i1 j4)), .second, .val (.long (j5 &&& (9223372036854775807 : Int64))), .second, .val (.long (own_j0_104_0 i1 j4)), .second, .unset, .unset, .unset] [(.long (j5 &&& (9223372036854775807 : Int64)))])) _
    refine st30 _ ?_
    show Steps p.tables e below (T30.setTop (mkF m 127 #[.val (.int i1), .val (.long j2), .second, .val (.long j3), .second, .val (.long j4), .second, .val (.long j5), .second, .val (.int (own_j0_3_0 i1)), .val (.int (own_j0_16_0 i1)), .val (.long (j2 &&& (9223372036854775807 : Int64))), .second, .val (.long (j3 &&& (9223372036854775807 : Int64))), .second, .val (.long (own_j0_45_0 j2 j3)), .second, .val (.long (own_j0_66_0 i1 j4)), .second, .val (.long (j5 &&& (9223372036854775807 : Int64))), .second, .val (.long (own_j0_104_0 i1 j4)), .second, .unset, .unset, .unset] [(.long (own_r1 (j5 &&& (9223372036854775807 : Int64))))])) _
    refine XS.lstore X30.here hx rfl (hb hby at_127) rfl (l' := #[.val (.int i1), .val (.long j2), .second, .val (.long j3), .second, .val (.long j4), .second, .val (.long j5), .second, .val (.int (own_j0_3_0 i1)), .val (.int (own_j0_16_0 i1)), .val (.long (j2 &&& (9223372036854775807 : Int64))), .second, .val (.long (j3 &&& (9223372036854775807 : Int64))), .second, .val (.long (own_j0_45_0 j2 j3)), .second, .val (.long (own_j0_66_0 i1 j4)), .second, .val (.long (j5 &&& (9223372036854775807 : Int64))), .second, .val (.long (own_j0_104_0 i1 j4)), .second, .val (.long (own_r1 (j5 &&& (9223372036854775807 : Int64)))), .second, .unset]) rfl ?_
    show Steps p.tables e below (T30.setTop (mkF m 129 #[.val (.int i1), .val (.long j2), .second, .val (.long j3), .second, .val (.long j4), .second, .val (.long j5), .second, .val (.int (own_j0_3_0 i1)), .val (.int (own_j0_16_0 i1)), .val (.long (j2 &&& (9223372036854775807 : Int64))), .second, .val (.long (j3 &&& (9223372036854775807 : Int64))), .second, .val (.long (own_j0_45_0 j2 j3)), .second, .val (.long (own_j0_66_0 i1 j4)), .second, .val (.long (j5 &&& (9223372036854775807 : Int64))), .second, .val (.long (own_j0_104_0 i1 j4)), .second, .val (.long (own_r1 (j5 &&& (9223372036854775807 : Int64)))), .second, .unset] [])) _
    refine XS.iload X30.here hx rfl (hb hby at_129) rfl ?_
    show Steps p.tables e below (T30.setTop (mkF m 131 #[.val (.int i1), .val (.long j2), .second, .val (.long j3), .second, .val (.long j4), .second, .val (.long j5), .second, .val (.int (own_j0_3_0 i1)), .val (.int (own_j0_16_0 i1)), .val (.long (j2 &&& (9223372036854775807 : Int64))), .second, .val (.long (j3 &&& (9223372036854775807 : Int64))), .second, .val (.long (own_j0_45_0 j2 j3)), .second, .val (.long (own_j0_66_0 i1 j4)), .second, .val (.long (j5 &&& (9223372036854775807 : Int64))), .second, .val (.long (own_j0_104_0 i1 j4)), .second, .val (.long (own_r1 (j5 &&& (9223372036854775807 : Int64)))), .second, .unset] [(.int (own_j0_3_0 i1))])) _
    refine XS.lload X30.here hx rfl (hb hby at_131) rfl ?_
    show Steps p.tables e below (T30.setTop (mkF m 133 #[.val (.int i1), .val (.long j2), .second, .val (.long j3), .second, .val (.long j4), .second, .val (.long j5), .second, .val (.int (own_j0_3_0 i1)), .val (.int (own_j0_16_0 i1)), .val (.long (j2 &&& (9223372036854775807 : Int64))), .second, .val (.long (j3 &&& (9223372036854775807 : Int64))), .second, .val (.long (own_j0_45_0 j2 j3)), .second, .val (.long (own_j0_66_0 i1 j4)), .second, .val (.long (j5 &&& (9223372036854775807 : Int64))), .second, .val (.long (own_j0_104_0 i1 j4)), .second, .val (.long (own_r1 (j5 &&& (9223372036854775807 : Int64)))), .second, .unset] [(.long (j2 &&& (9223372036854775807 : Int64))), (.int (own_j0_3_0 i1))])) _
    refine XS.lload X30.here hx rfl (hb hby at_133) rfl ?_
    show Steps p.tables e below (T30.setTop (mkF m 135 #[.val (.int i1), .val (.long j2), .second, .val (.long j3), .second, .val (.long j4), .second, .val (.long j5), .second, .val (.int (own_j0_3_0 i1)), .val (.int (own_j0_16_0 i1)), .val (.long (j2 &&& (9223372036854775807 : Int64))), .second, .val (.long (j3 &&& (9223372036854775807 : Int64))), .second, .val (.long (own_j0_45_0 j2 j3)), .second, .val (.long (own_j0_66_0 i1 j4)), .second, .val (.long (j5 &&& (9223372036854775807 : Int64))), .second, .val (.long (own_j0_104_0 i1 j4)), .second, .val (.long (own_r1 (j5 &&& (9223372036854775807 : Int64)))), .second, .unset] [(.long (own_j0_45_0 j2 j3)), (.long (j2 &&& (9223372036854775807 : Int64))), (.int (own_j0_3_0 i1))])) _
    refine XS.lload X30.here hx rfl (hb hby at_135) rfl ?_
    show Steps p.tables e below (T30.setTop (mkF m 137 #[.val (.int i1), .val (.long j2), .second, .val (.long j3), .second, .val (.long j4), .second, .val (.long j5), .second, .val (.int (own_j0_3_0 i1)), .val (.int (own_j0_16_0 i1)), .val (.long (j2 &&& (9223372036854775807 : Int64))), .second, .val (.long (j3 &&& (9223372036854775807 : Int64))), .second, .val (.long (own_j0_45_0 j2 j3)), .second, .val (.long (own_j0_66_0 i1 j4)), .second, .val (.long (j5 &&& (9223372036854775807 : Int64))), .second, .val (.long (own_j0_104_0 i1 j4)), .second, .val (.long (own_r1 (j5 &&& (9223372036854775807 : Int64)))), .second, .unset] [(.long (own_j0_66_0 i1 j4)), (.long (own_j0_45_0 j2 j3)), (.long (j2 &&& (9223372036854775807 : Int64))), (.int (own_j0_3_0 i1))])) _
    refine XS.lload X30.here hx rfl (hb hby at_137) rfl ?_
    show Steps p.tables e below (T30.setTop (mkF m 139 #[.val (.int i1), .val (.long j2), .second, .val (.long j3), .second, .val (.long j4), .second, .val (.long j5), .second, .val (.int (own_j0_3_0 i1)), .val (.int (own_j0_16_0 i1)), .val (.long (j2 &&& (9223372036854775807 : Int64))), .second, .val (.long (j3 &&& (9223372036854775807 : Int64))), .second, .val (.long (own_j0_45_0 j2 j3)), .second, .val (.long (own_j0_66_0 i1 j4)), .second, .val (.long (j5 &&& (9223372036854775807 : Int64))), .second, .val (.long (own_j0_104_0 i1 j4)), .second, .val (.long (own_r1 (j5 &&& (9223372036854775807 : Int64)))), .second, .unset] [(.long (j5 &&& (9223372036854775807 : Int64))), (.long (own_j0_66_0 i1 j4)), (.long (own_j0_45_0 j2 j3)), (.long (j2 &&& (9223372036854775807 : Int64))), (.int (own_j0_3_0 i1))])) _
    refine st31 _ ?_
    show Steps p.tables e below (T31.setTop (mkF m 142 #[.val (.int i1), .val (.long j2), .second, .val (.long j3), .second, .val (.long j4), .second, .val (.long j5), .second, .val (.int (own_j0_3_0 i1)), .val (.int (own_j0_16_0 i1)), .val (.long (j2 &&& (9223372036854775807 : Int64))), .second, .val (.long (j3 &&& (9223372036854775807 : Int64))), .second, .val (.long (own_j0_45_0 j2 j3)), .second, .val (.long (own_j0_66_0 i1 j4)), .second, .val (.long (j5 &&& (9223372036854775807 : Int64))), .second, .val (.long (own_j0_104_0 i1 j4)), .second, .val (.long (own_r1 (j5 &&& (9223372036854775807 : Int64)))), .second, .unset] [(.ref b31_0)])) _
    refine XS.astore X31.here hx rfl (hb hby at_142) rfl rfl (l' := #[.val (.int i1), .val (.long j2), .second, .val (.long j3), .second, .val (.long j4), .second, .val (.long j5), .second, .val (.int (own_j0_3_0 i1)), .val (.int (own_j0_16_0 i1)), .val (.long (j2 &&& (9223372036854775807 : Int64))), .second, .val (.long (j3 &&& (9223372036854775807 : Int64))), .second, .val (.long (own_j0_45_0 j2 j3)), .second, .val (.long (own_j0_66_0 i1 j4)), .second, .val (.long (j5 &&& (9223372036854775807 : Int64))), .second, .val (.long (own_j0_104_0 i1 j4)), .second, .val (.long (own_r1 (j5 &&& (9223372036854775807 : Int64)))), .second, .val (.ref b31_0)]) rfl ?_
    show Steps p.tables e below (T31.setTop (mkF m 144 #[.val (.int i1), .val (.long j2), .second, .val (.long j3), .second, .val (.long j4), .second, .val (.long j5), .second, .val (.int (own_j0_3_0 i1)), .val (.int (own_j0_16_0 i1)), .val (.long (j2 &&& (9223372036854775807 : Int64))), .second, .val (.long (j3 &&& (9223372036854775807 : Int64))), .second, .val (.long (own_j0_45_0 j2 j3)), .second, .val (.long (own_j0_66_0 i1 j4)), .second, .val (.long (j5 &&& (9223372036854775807 : Int64))), .second, .val (.long (own_j0_104_0 i1 j4)), .second, .val (.long (own_r1 (j5 &&& (9223372036854775807 : Int64)))), .second, .val (.ref b31_0)] [])) _
    refine XS.aload X31.here hx rfl (hb hby at_144) rfl rfl ?_
    show Steps p.tables e below (T31.setTop (mkF m 146 #[.val (.int i1), .val (.long j2), .second, .val (.long j3), .second, .val (.long j4), .second, .val (.long j5), .second, .val (.int (own_j0_3_0 i1)), .val (.int (own_j0_16_0 i1)), .val (.long (j2 &&& (9223372036854775807 : Int64))), .second, .val (.long (j3 &&& (9223372036854775807 : Int64))), .second, .val (.long (own_j0_45_0 j2 j3)), .second, .val (.long (own_j0_66_0 i1 j4)), .second, .val (.long (j5 &&& (9223372036854775807 : Int64))), .second, .val (.long (own_j0_104_0 i1 j4)), .second, .val (.long (own_r1 (j5 &&& (9223372036854775807 : Int64)))), .second, .val (.ref b31_0)] [(.ref b31_0)])) _
    refine st33.trans ?_
    show Steps p.tables e below (T33.setTop (mkF m 149 #[.val (.int i1), .val (.long j2), .second, .val (.long j3), .second, .val (.long j4), .second, .val (.long j5), .second, .val (.int (own_j0_3_0 i1)), .val (.int (own_j0_16_0 i1)), .val (.long (j2 &&& (9223372036854775807 : Int64))), .second, .val (.long (j3 &&& (9223372036854775807 : Int64))), .second, .val (.long (own_j0_45_0 j2 j3)), .second, .val (.long (own_j0_66_0 i1 j4)), .second, .val (.long (j5 &&& (9223372036854775807 : Int64))), .second, .val (.long (own_j0_104_0 i1 j4)), .second, .val (.long (own_r1 (j5 &&& (9223372036854775807 : Int64)))), .second, .val (.ref b31_0)] [(.int (nar .boolean (nar .boolean (own_j0_3_0 i1))))])) _
    refine XS.iload X33.here hx rfl (hb hby at_149) rfl ?_
    exact k
  obtain ⟨T52, Lq52, X52, N52, e52, pre52⟩ : ∃ (T' : State) (locs' : List Loc), Stand p l e room_1 s m #[(.int i1), (.long j2), (.long j3), (.long j4), (.long j5)] below meth c T' locs' 1 6 ∧ Fr n0 locs' ∧ T'.heap = T31.heap ∧ ∀ t, Steps p.tables e below (T'.setTop (mkF m 211 #[.val (.int i1), .val (.long j2), .second, .val (.long j3), .second, .val (.long j4), .second, .val (.long j5), .second, .val (.int (own_j0_3_0 i1)), .val (.int (own_j0_16_0 i1)), .val (.long (j2 &&& (9223372036854775807 : Int64))), .second, .val (.long (j3 &&& (9223372036854775807 : Int64))), .second, .val (.long (own_j0_45_0 j2 j3)), .second, .val (.long (own_j0_66_0 i1 j4)), .second, .val (.long (j5 &&& (9223372036854775807 : Int64))), .second, .val (.long (own_j0_104_0 i1 j4)), .second, .val (.long (own_r1 (j5 &&& (9223372036854775807 : Int64)))), .second, .val (.ref b31_0)] [(.int (own_j0_151_0 i1 j4 j5))])) t → Steps p.tables e below (s₁.setTop (entryFrame m #[(.int i1), (.long j2), (.long j3), (.long j4), (.long j5)] maxLocals)) t := by
    by_cases hc151_35 : (nar .boolean (nar .boolean (own_j0_3_0 i1))) = (own_j0_3_0 i1)
    · obtain ⟨cq36, kq36, q36a, q36b, q36c⟩ := isOf hZ e33 f31_0
      obtain ⟨_, _, ⟨T36, L36, k36, n36⟩, -, X36, ⟨Lc36, hQ36, l36, y36, z36⟩, st36⟩ := X33.virtualBack hx (y := (⟨"com/example/burst/burst/Decision", "limit", "()J"⟩ : MethodName)) (z := (⟨"com/example/burst/burst/Decision", "limit", "()J"⟩ : MethodName)) hown (mvT hZ (hw _ (List.mem_of_getElem? (i := 55) rfl))) (mvT hZ (hw _ (List.mem_of_getElem? (i := 56) rfl))) (notFace_of_selects (args := #[]) (mvT hZ (hw _ (List.mem_of_getElem? (i := 58) rfl)))) (mvT hZ (hw _ (List.mem_of_getElem? (i := 58) rfl))) (mvT hZ (hw _ (List.mem_of_getElem? (i := 57) rfl))) (by decide) (backOf (W := 0) (rm10 l Z a0 hw [] b31_0 (j2 &&& (9223372036854775807 : Int64)) T31.heap n0 (Nat.le_trans Z0 K32.1) f31_2) hZ (hw _ (List.mem_of_getElem? (i := 59) rfl)) (hw _ (List.mem_of_getElem? (i := 22) rfl)) (by decide) (by decide)) q36a q36c (g := (mkF m 156 #[.val (.int i1), .val (.long j2), .second, .val (.long j3), .second, .val (.long j4), .second, .val (.long j5), .second, .val (.int (own_j0_3_0 i1)), .val (.int (own_j0_16_0 i1)), .val (.long (j2 &&& (9223372036854775807 : Int64))), .second, .val (.long (j3 &&& (9223372036854775807 : Int64))), .second, .val (.long (own_j0_45_0 j2 j3)), .second, .val (.long (own_j0_66_0 i1 j4)), .second, .val (.long (j5 &&& (9223372036854775807 : Int64))), .second, .val (.long (own_j0_104_0 i1 j4)), .second, .val (.long (own_r1 (j5 &&& (9223372036854775807 : Int64)))), .second, .val (.ref b31_0)] [(.ref b31_0)])) rfl (by rw [hml]; rfl) (Steps.refl _) (argsL := []) (rest := []) (lenOf pd_7 rfl) rfl (by show 2 * 0 + _ ≤ _; exact Nat.le_of_eq rfl) (hb hby at_156) (fun _ _ => ⟨rfl, e33, (by decide : 1 + 0 ≤ _), (by decide : 6 + 0 ≤ _)⟩)
      dsimp only [Pt.U, Pt.locs, Pt.cells, Pt.slots] at X36 l36 y36 z36 st36 hQ36
      subst l36 y36 z36
      obtain ⟨rfl, Nq36, e36⟩ := hQ36
      have N36 := Fr.app N33 Nq36
      obtain ⟨cq37, kq37, q37a, q37b, q37c⟩ := isOf hZ e36 f31_0
      obtain ⟨_, _, ⟨T37, L37, k37, n37⟩, -, X37, ⟨Lc37, hQ37, l37, y37, z37⟩, st37⟩ := X36.virtualBack hx (y := (⟨"com/example/burst/burst/Decision", "remaining", "()J"⟩ : MethodName)) (z := (⟨"com/example/burst/burst/Decision", "remaining", "()J"⟩ : MethodName)) hown (mvT hZ (hw _ (List.mem_of_getElem? (i := 60) rfl))) (mvT hZ (hw _ (List.mem_of_getElem? (i := 61) rfl))) (notFace_of_selects (args := #[]) (mvT hZ (hw _ (List.mem_of_getElem? (i := 63) rfl)))) (mvT hZ (hw _ (List.mem_of_getElem? (i := 63) rfl))) (mvT hZ (hw _ (List.mem_of_getElem? (i := 62) rfl))) (by decide) (backOf (W := 0) (rm11 l Z a0 hw [] b31_0 (own_j0_45_0 j2 j3) T31.heap n0 (Nat.le_trans Z0 K32.1) f31_3) hZ (hw _ (List.mem_of_getElem? (i := 64) rfl)) (hw _ (List.mem_of_getElem? (i := 22) rfl)) (by decide) (by decide)) q37a q37c (g := (mkF m 167 #[.val (.int i1), .val (.long j2), .second, .val (.long j3), .second, .val (.long j4), .second, .val (.long j5), .second, .val (.int (own_j0_3_0 i1)), .val (.int (own_j0_16_0 i1)), .val (.long (j2 &&& (9223372036854775807 : Int64))), .second, .val (.long (j3 &&& (9223372036854775807 : Int64))), .second, .val (.long (own_j0_45_0 j2 j3)), .second, .val (.long (own_j0_66_0 i1 j4)), .second, .val (.long (j5 &&& (9223372036854775807 : Int64))), .second, .val (.long (own_j0_104_0 i1 j4)), .second, .val (.long (own_r1 (j5 &&& (9223372036854775807 : Int64)))), .second, .val (.ref b31_0)] [(.ref b31_0)])) rfl (by rw [hml]; rfl) (Steps.refl _) (argsL := []) (rest := []) (lenOf pd_7 rfl) rfl (by show 2 * 0 + _ ≤ _; exact Nat.le_of_eq rfl) (hb hby at_167) (fun _ _ => ⟨rfl, e36, (by decide : 1 + 0 ≤ _), (by decide : 6 + 0 ≤ _)⟩)
      dsimp only [Pt.U, Pt.locs, Pt.cells, Pt.slots] at X37 l37 y37 z37 st37 hQ37
      subst l37 y37 z37
      obtain ⟨rfl, Nq37, e37⟩ := hQ37
      have N37 := Fr.app N36 Nq37
      obtain ⟨cq38, kq38, q38a, q38b, q38c⟩ := isOf hZ e37 f31_0
      obtain ⟨_, _, ⟨T38, L38, k38, n38⟩, -, X38, ⟨Lc38, hQ38, l38, y38, z38⟩, st38⟩ := X37.virtualBack hx (y := (⟨"com/example/burst/burst/Decision", "retryAfterMillis", "()J"⟩ : MethodName)) (z := (⟨"com/example/burst/burst/Decision", "retryAfterMillis", "()J"⟩ : MethodName)) hown (mvT hZ (hw _ (List.mem_of_getElem? (i := 65) rfl))) (mvT hZ (hw _ (List.mem_of_getElem? (i := 66) rfl))) (notFace_of_selects (args := #[]) (mvT hZ (hw _ (List.mem_of_getElem? (i := 68) rfl)))) (mvT hZ (hw _ (List.mem_of_getElem? (i := 68) rfl))) (mvT hZ (hw _ (List.mem_of_getElem? (i := 67) rfl))) (by decide) (backOf (W := 0) (rm12 l Z a0 hw [] b31_0 (own_j2_6_0 (own_j0_66_0 i1 j4)) T31.heap n0 (Nat.le_trans Z0 K32.1) f31_4) hZ (hw _ (List.mem_of_getElem? (i := 69) rfl)) (hw _ (List.mem_of_getElem? (i := 22) rfl)) (by decide) (by decide)) q38a q38c (g := (mkF m 178 #[.val (.int i1), .val (.long j2), .second, .val (.long j3), .second, .val (.long j4), .second, .val (.long j5), .second, .val (.int (own_j0_3_0 i1)), .val (.int (own_j0_16_0 i1)), .val (.long (j2 &&& (9223372036854775807 : Int64))), .second, .val (.long (j3 &&& (9223372036854775807 : Int64))), .second, .val (.long (own_j0_45_0 j2 j3)), .second, .val (.long (own_j0_66_0 i1 j4)), .second, .val (.long (j5 &&& (9223372036854775807 : Int64))), .second, .val (.long (own_j0_104_0 i1 j4)), .second, .val (.long (own_r1 (j5 &&& (9223372036854775807 : Int64)))), .second, .val (.ref b31_0)] [(.ref b31_0)])) rfl (by rw [hml]; rfl) (Steps.refl _) (argsL := []) (rest := []) (lenOf pd_7 rfl) rfl (by show 2 * 0 + _ ≤ _; exact Nat.le_of_eq rfl) (hb hby at_178) (fun _ _ => ⟨rfl, e37, (by decide : 1 + 0 ≤ _), (by decide : 6 + 0 ≤ _)⟩)
      dsimp only [Pt.U, Pt.locs, Pt.cells, Pt.slots] at X38 l38 y38 z38 st38 hQ38
      subst l38 y38 z38
      obtain ⟨rfl, Nq38, e38⟩ := hQ38
      have N38 := Fr.app N37 Nq38
      have pre39 : ∀ t, Steps p.tables e below (T38.setTop (mkF m 184 #[.val (.int i1), .val (.long j2), .second, .val (.long j3), .second, .val (.long j4), .second, .val (.long j5), .second, .val (.int (own_j0_3_0 i1)), .val (.int (own_j0_16_0 i1)), .val (.long (j2 &&& (9223372036854775807 : Int64))), .second, .val (.long (j3 &&& (9223372036854775807 : Int64))), .second, .val (.long (own_j0_45_0 j2 j3)), .second, .val (.long (own_j0_66_0 i1 j4)), .second, .val (.long (j5 &&& (9223372036854775807 : Int64))), .second, .val (.long (own_j0_104_0 i1 j4)), .second, .val (.long (own_r1 (j5 &&& (9223372036854775807 : Int64)))), .second, .val (.ref b31_0)] [(.int (lcmpW (own_j2_6_0 (own_j0_66_0 i1 j4)) (own_j0_104_0 i1 j4)))])) t → Steps p.tables e below (s₁.setTop (entryFrame m #[(.int i1), (.long j2), (.long j3), (.long j4), (.long j5)] maxLocals)) t := by
        intro t k
        refine pre34 _ ?_
        show Steps p.tables e below (T33.setTop (mkF m 151 #[.val (.int i1), .val (.long j2), .second, .val (.long j3), .second, .val (.long j4), .second, .val (.long j5), .second, .val (.int (own_j0_3_0 i1)), .val (.int (own_j0_16_0 i1)), .val (.long (j2 &&& (9223372036854775807 : Int64))), .second, .val (.long (j3 &&& (9223372036854775807 : Int64))), .second, .val (.long (own_j0_45_0 j2 j3)), .second, .val (.long (own_j0_66_0 i1 j4)), .second, .val (.long (j5 &&& (9223372036854775807 : Int64))), .second, .val (.long (own_j0_104_0 i1 j4)), .second, .val (.long (own_r1 (j5 &&& (9223372036854775807 : Int64)))), .second, .val (.ref b31_0)] [(.int (own_j0_3_0 i1)), (.int (nar .boolean (nar .boolean (own_j0_3_0 i1))))])) _
        refine XS.icmpNo X33.here hx rfl (hb hby at_151) rfl (teq hc151_35).2 ?_
        show Steps p.tables e below (T33.setTop (mkF m 154 #[.val (.int i1), .val (.long j2), .second, .val (.long j3), .second, .val (.long j4), .second, .val (.long j5), .second, .val (.int (own_j0_3_0 i1)), .val (.int (own_j0_16_0 i1)), .val (.long (j2 &&& (9223372036854775807 : Int64))), .second, .val (.long (j3 &&& (9223372036854775807 : Int64))), .second, .val (.long (own_j0_45_0 j2 j3)), .second, .val (.long (own_j0_66_0 i1 j4)), .second, .val (.long (j5 &&& (9223372036854775807 : Int64))), .second, .val (.long (own_j0_104_0 i1 j4)), .second, .val (.long (own_r1 (j5 &&& (9223372036854775807 : Int64)))), .second, .val (.ref b31_0)] [])) _
        refine XS.aload X33.here hx rfl (hb hby at_154) rfl rfl ?_
        show Steps p.tables e below (T33.setTop (mkF m 156 #[.val (.int i1), .val (.long j2), .second, .val (.long j3), .second, .val (.long j4), .second, .val (.long j5), .second, .val (.int (own_j0_3_0 i1)), .val (.int (own_j0_16_0 i1)), .val (.long (j2 &&& (9223372036854775807 : Int64))), .second, .val (.long (j3 &&& (9223372036854775807 : Int64))), .second, .val (.long (own_j0_45_0 j2 j3)), .second, .val (.long (own_j0_66_0 i1 j4)), .second, .val (.long (j5 &&& (9223372036854775807 : Int64))), .second, .val (.long (own_j0_104_0 i1 j4)), .second, .val (.long (own_r1 (j5 &&& (9223372036854775807 : Int64)))), .second, .val (.ref b31_0)] [(.ref b31_0)])) _
        refine st36.trans ?_
        show Steps p.tables e below (T36.setTop (mkF m 159 #[.val (.int i1), .val (.long j2), .second, .val (.long j3), .second, .val (.long j4), .second, .val (.long j5), .second, .val (.int (own_j0_3_0 i1)), .val (.int (own_j0_16_0 i1)), .val (.long (j2 &&& (9223372036854775807 : Int64))), .second, .val (.long (j3 &&& (9223372036854775807 : Int64))), .second, .val (.long (own_j0_45_0 j2 j3)), .second, .val (.long (own_j0_66_0 i1 j4)), .second, .val (.long (j5 &&& (9223372036854775807 : Int64))), .second, .val (.long (own_j0_104_0 i1 j4)), .second, .val (.long (own_r1 (j5 &&& (9223372036854775807 : Int64)))), .second, .val (.ref b31_0)] [(.long (j2 &&& (9223372036854775807 : Int64)))])) _
        refine XS.lload X36.here hx rfl (hb hby at_159) rfl ?_
        show Steps p.tables e below (T36.setTop (mkF m 161 #[.val (.int i1), .val (.long j2), .second, .val (.long j3), .second, .val (.long j4), .second, .val (.long j5), .second, .val (.int (own_j0_3_0 i1)), .val (.int (own_j0_16_0 i1)), .val (.long (j2 &&& (9223372036854775807 : Int64))), .second, .val (.long (j3 &&& (9223372036854775807 : Int64))), .second, .val (.long (own_j0_45_0 j2 j3)), .second, .val (.long (own_j0_66_0 i1 j4)), .second, .val (.long (j5 &&& (9223372036854775807 : Int64))), .second, .val (.long (own_j0_104_0 i1 j4)), .second, .val (.long (own_r1 (j5 &&& (9223372036854775807 : Int64)))), .second, .val (.ref b31_0)] [(.long (j2 &&& (9223372036854775807 : Int64))), (.long (j2 &&& (9223372036854775807 : Int64)))])) _
        refine XS.lcmp X36.here hx rfl (hb hby at_161) rfl ?_
        show Steps p.tables e below (T36.setTop (mkF m 162 #[.val (.int i1), .val (.long j2), .second, .val (.long j3), .second, .val (.long j4), .second, .val (.long j5), .second, .val (.int (own_j0_3_0 i1)), .val (.int (own_j0_16_0 i1)), .val (.long (j2 &&& (9223372036854775807 : Int64))), .second, .val (.long (j3 &&& (9223372036854775807 : Int64))), .second, .val (.long (own_j0_45_0 j2 j3)), .second, .val (.long (own_j0_66_0 i1 j4)), .second, .val (.long (j5 &&& (9223372036854775807 : Int64))), .second, .val (.long (own_j0_104_0 i1 j4)), .second, .val (.long (own_r1 (j5 &&& (9223372036854775807 : Int64)))), .second, .val (.ref b31_0)] [(.int (lcmpW (j2 &&& (9223372036854775807 : Int64)) (j2 &&& (9223372036854775807 : Int64))))])) _
        refine XS.ifNo X36.here hx rfl (hb hby at_162) rfl ((if0 _ _).trans (teq ((lw_eq (j2 &&& (9223372036854775807 : Int64)) (j2 &&& (9223372036854775807 : Int64))).mpr (rfl : (j2 &&& (9223372036854775807 : Int64)) = (j2 &&& (9223372036854775807 : Int64))))).2) ?_
        show Steps p.tables e below (T36.setTop (mkF m 165 #[.val (.int i1), .val (.long j2), .second, .val (.long j3), .second, .val (.long j4), .second, .val (.long j5), .second, .val (.int (own_j0_3_0 i1)), .val (.int (own_j0_16_0 i1)), .val (.long (j2 &&& (9223372036854775807 : Int64))), .second, .val (.long (j3 &&& (9223372036854775807 : Int64))), .second, .val (.long (own_j0_45_0 j2 j3)), .second, .val (.long (own_j0_66_0 i1 j4)), .second, .val (.long (j5 &&& (9223372036854775807 : Int64))), .second, .val (.long (own_j0_104_0 i1 j4)), .second, .val (.long (own_r1 (j5 &&& (9223372036854775807 : Int64)))), .second, .val (.ref b31_0)] [])) _
        refine XS.aload X36.here hx rfl (hb hby at_165) rfl rfl ?_
        show Steps p.tables e below (T36.setTop (mkF m 167 #[.val (.int i1), .val (.long j2), .second, .val (.long j3), .second, .val (.long j4), .second, .val (.long j5), .second, .val (.int (own_j0_3_0 i1)), .val (.int (own_j0_16_0 i1)), .val (.long (j2 &&& (9223372036854775807 : Int64))), .second, .val (.long (j3 &&& (9223372036854775807 : Int64))), .second, .val (.long (own_j0_45_0 j2 j3)), .second, .val (.long (own_j0_66_0 i1 j4)), .second, .val (.long (j5 &&& (9223372036854775807 : Int64))), .second, .val (.long (own_j0_104_0 i1 j4)), .second, .val (.long (own_r1 (j5 &&& (9223372036854775807 : Int64)))), .second, .val (.ref b31_0)] [(.ref b31_0)])) _
        refine st37.trans ?_
        show Steps p.tables e below (T37.setTop (mkF m 170 #[.val (.int i1), .val (.long j2), .second, .val (.long j3), .second, .val (.long j4), .second, .val (.long j5), .second, .val (.int (own_j0_3_0 i1)), .val (.int (own_j0_16_0 i1)), .val (.long (j2 &&& (9223372036854775807 : Int64))), .second, .val (.long (j3 &&& (9223372036854775807 : Int64))), .second, .val (.long (own_j0_45_0 j2 j3)), .second, .val (.long (own_j0_66_0 i1 j4)), .second, .val (.long (j5 &&& (9223372036854775807 : Int64))), .second, .val (.long (own_j0_104_0 i1 j4)), .second, .val (.long (own_r1 (j5 &&& (9223372036854775807 : Int64)))), .second, .val (.ref b31_0)] [(.long (own_j0_45_0 j2 j3))])) _
        refine XS.lload X37.here hx rfl (hb hby at_170) rfl ?_
        show Steps p.tables e below (T37.setTop (mkF m 172 #[.val (.int i1), .val (.long j2), .second, .val (.long j3), .second, .val (.long j4), .second, .val (.long j5), .second, .val (.int (own_j0_3_0 i1)), .val (.int (own_j0_16_0 i1)), .val (.long (j2 &&& (9223372036854775807 : Int64))), .second, .val (.long (j3 &&& (9223372036854775807 : Int64))), .second, .val (.long (own_j0_45_0 j2 j3)), .second, .val (.long (own_j0_66_0 i1 j4)), .second, .val (.long (j5 &&& (9223372036854775807 : Int64))), .second, .val (.long (own_j0_104_0 i1 j4)), .second, .val (.long (own_r1 (j5 &&& (9223372036854775807 : Int64)))), .second, .val (.ref b31_0)] [(.long (own_j0_45_0 j2 j3)), (.long (own_j0_45_0 j2 j3))])) _
        refine XS.lcmp X37.here hx rfl (hb hby at_172) rfl ?_
        show Steps p.tables e below (T37.setTop (mkF m 173 #[.val (.int i1), .val (.long j2), .second, .val (.long j3), .second, .val (.long j4), .second, .val (.long j5), .second, .val (.int (own_j0_3_0 i1)), .val (.int (own_j0_16_0 i1)), .val (.long (j2 &&& (9223372036854775807 : Int64))), .second, .val (.long (j3 &&& (9223372036854775807 : Int64))), .second, .val (.long (own_j0_45_0 j2 j3)), .second, .val (.long (own_j0_66_0 i1 j4)), .second, .val (.long (j5 &&& (9223372036854775807 : Int64))), .second, .val (.long (own_j0_104_0 i1 j4)), .second, .val (.long (own_r1 (j5 &&& (9223372036854775807 : Int64)))), .second, .val (.ref b31_0)] [(.int (lcmpW (own_j0_45_0 j2 j3) (own_j0_45_0 j2 j3)))])) _
        refine XS.ifNo X37.here hx rfl (hb hby at_173) rfl ((if0 _ _).trans (teq ((lw_eq (own_j0_45_0 j2 j3) (own_j0_45_0 j2 j3)).mpr (rfl : (own_j0_45_0 j2 j3) = (own_j0_45_0 j2 j3)))).2) ?_
        show Steps p.tables e below (T37.setTop (mkF m 176 #[.val (.int i1), .val (.long j2), .second, .val (.long j3), .second, .val (.long j4), .second, .val (.long j5), .second, .val (.int (own_j0_3_0 i1)), .val (.int (own_j0_16_0 i1)), .val (.long (j2 &&& (9223372036854775807 : Int64))), .second, .val (.long (j3 &&& (9223372036854775807 : Int64))), .second, .val (.long (own_j0_45_0 j2 j3)), .second, .val (.long (own_j0_66_0 i1 j4)), .second, .val (.long (j5 &&& (9223372036854775807 : Int64))), .second, .val (.long (own_j0_104_0 i1 j4)), .second, .val (.long (own_r1 (j5 &&& (9223372036854775807 : Int64)))), .second, .val (.ref b31_0)] [])) _
        refine XS.aload X37.here hx rfl (hb hby at_176) rfl rfl ?_
        show Steps p.tables e below (T37.setTop (mkF m 178 #[.val (.int i1), .val (.long j2), .second, .val (.long j3), .second, .val (.long j4), .second, .val (.long j5), .second, .val (.int (own_j0_3_0 i1)), .val (.int (own_j0_16_0 i1)), .val (.long (j2 &&& (9223372036854775807 : Int64))), .second, .val (.long (j3 &&& (9223372036854775807 : Int64))), .second, .val (.long (own_j0_45_0 j2 j3)), .second, .val (.long (own_j0_66_0 i1 j4)), .second, .val (.long (j5 &&& (9223372036854775807 : Int64))), .second, .val (.long (own_j0_104_0 i1 j4)), .second, .val (.long (own_r1 (j5 &&& (9223372036854775807 : Int64)))), .second, .val (.ref b31_0)] [(.ref b31_0)])) _
        refine st38.trans ?_
        show Steps p.tables e below (T38.setTop (mkF m 181 #[.val (.int i1), .val (.long j2), .second, .val (.long j3), .second, .val (.long j4), .second, .val (.long j5), .second, .val (.int (own_j0_3_0 i1)), .val (.int (own_j0_16_0 i1)), .val (.long (j2 &&& (9223372036854775807 : Int64))), .second, .val (.long (j3 &&& (9223372036854775807 : Int64))), .second, .val (.long (own_j0_45_0 j2 j3)), .second, .val (.long (own_j0_66_0 i1 j4)), .second, .val (.long (j5 &&& (9223372036854775807 : Int64))), .second, .val (.long (own_j0_104_0 i1 j4)), .second, .val (.long (own_r1 (j5 &&& (9223372036854775807 : Int64)))), .second, .val (.ref b31_0)] [(.long (own_j2_6_0 (own_j0_66_0 i1 j4)))])) _
        refine XS.lload X38.here hx rfl (hb hby at_181) rfl ?_
        show Steps p.tables e below (T38.setTop (mkF m 183 #[.val (.int i1), .val (.long j2), .second, .val (.long j3), .second, .val (.long j4), .second, .val (.long j5), .second, .val (.int (own_j0_3_0 i1)), .val (.int (own_j0_16_0 i1)), .val (.long (j2 &&& (9223372036854775807 : Int64))), .second, .val (.long (j3 &&& (9223372036854775807 : Int64))), .second, .val (.long (own_j0_45_0 j2 j3)), .second, .val (.long (own_j0_66_0 i1 j4)), .second, .val (.long (j5 &&& (9223372036854775807 : Int64))), .second, .val (.long (own_j0_104_0 i1 j4)), .second, .val (.long (own_r1 (j5 &&& (9223372036854775807 : Int64)))), .second, .val (.ref b31_0)] [(.long (own_j0_104_0 i1 j4)), (.long (own_j2_6_0 (own_j0_66_0 i1 j4)))])) _
        refine XS.lcmp X38.here hx rfl (hb hby at_183) rfl ?_
        exact k
      by_cases hc184_40 : (own_j2_6_0 (own_j0_66_0 i1 j4)) = (own_j0_104_0 i1 j4)
      · obtain ⟨cq41, kq41, q41a, q41b, q41c⟩ := isOf hZ e38 f31_0
        obtain ⟨_, _, ⟨T41, L41, k41, n41⟩, -, X41, ⟨Lc41, hQ41, l41, y41, z41⟩, st41⟩ := X38.virtualBack hx (y := (⟨"com/example/burst/burst/Decision", "resetAfterMillis", "()J"⟩ : MethodName)) (z := (⟨"com/example/burst/burst/Decision", "resetAfterMillis", "()J"⟩ : MethodName)) hown (mvT hZ (hw _ (List.mem_of_getElem? (i := 70) rfl))) (mvT hZ (hw _ (List.mem_of_getElem? (i := 71) rfl))) (notFace_of_selects (args := #[]) (mvT hZ (hw _ (List.mem_of_getElem? (i := 73) rfl)))) (mvT hZ (hw _ (List.mem_of_getElem? (i := 73) rfl))) (mvT hZ (hw _ (List.mem_of_getElem? (i := 72) rfl))) (by decide) (backOf (W := 0) (rm13 l Z a0 hw [] b31_0 (-(own_r4 (-(j5 &&& (9223372036854775807 : Int64))) (1000 : Int64))) T31.heap n0 (Nat.le_trans Z0 K32.1) f31_5) hZ (hw _ (List.mem_of_getElem? (i := 74) rfl)) (hw _ (List.mem_of_getElem? (i := 22) rfl)) (by decide) (by decide)) q41a q41c (g := (mkF m 189 #[.val (.int i1), .val (.long j2), .second, .val (.long j3), .second, .val (.long j4), .second, .val (.long j5), .second, .val (.int (own_j0_3_0 i1)), .val (.int (own_j0_16_0 i1)), .val (.long (j2 &&& (9223372036854775807 : Int64))), .second, .val (.long (j3 &&& (9223372036854775807 : Int64))), .second, .val (.long (own_j0_45_0 j2 j3)), .second, .val (.long (own_j0_66_0 i1 j4)), .second, .val (.long (j5 &&& (9223372036854775807 : Int64))), .second, .val (.long (own_j0_104_0 i1 j4)), .second, .val (.long (own_r1 (j5 &&& (9223372036854775807 : Int64)))), .second, .val (.ref b31_0)] [(.ref b31_0)])) rfl (by rw [hml]; rfl) (Steps.refl _) (argsL := []) (rest := []) (lenOf pd_7 rfl) rfl (by show 2 * 0 + _ ≤ _; exact Nat.le_of_eq rfl) (hb hby at_189) (fun _ _ => ⟨rfl, e38, (by decide : 1 + 0 ≤ _), (by decide : 6 + 0 ≤ _)⟩)
        dsimp only [Pt.U, Pt.locs, Pt.cells, Pt.slots] at X41 l41 y41 z41 st41 hQ41
        subst l41 y41 z41
        obtain ⟨rfl, Nq41, e41⟩ := hQ41
        have N41 := Fr.app N38 Nq41
        have pre42 : ∀ t, Steps p.tables e below (T41.setTop (mkF m 195 #[.val (.int i1), .val (.long j2), .second, .val (.long j3), .second, .val (.long j4), .second, .val (.long j5), .second, .val (.int (own_j0_3_0 i1)), .val (.int (own_j0_16_0 i1)), .val (.long (j2 &&& (9223372036854775807 : Int64))), .second, .val (.long (j3 &&& (9223372036854775807 : Int64))), .second, .val (.long (own_j0_45_0 j2 j3)), .second, .val (.long (own_j0_66_0 i1 j4)), .second, .val (.long (j5 &&& (9223372036854775807 : Int64))), .second, .val (.long (own_j0_104_0 i1 j4)), .second, .val (.long (own_r1 (j5 &&& (9223372036854775807 : Int64)))), .second, .val (.ref b31_0)] [(.int (lcmpW (-(own_r4 (-(j5 &&& (9223372036854775807 : Int64))) (1000 : Int64))) (own_r1 (j5 &&& (9223372036854775807 : Int64)))))])) t → Steps p.tables e below (s₁.setTop (entryFrame m #[(.int i1), (.long j2), (.long j3), (.long j4), (.long j5)] maxLocals)) t := by
          intro t k
          refine pre39 _ ?_
          show Steps p.tables e below (T38.setTop (mkF m 184 #[.val (.int i1), .val (.long j2), .second, .val (.long j3), .second, .val (.long j4), .second, .val (.long j5), .second, .val (.int (own_j0_3_0 i1)), .val (.int (own_j0_16_0 i1)), .val (.long (j2 &&& (9223372036854775807 : Int64))), .second, .val (.long (j3 &&& (9223372036854775807 : Int64))), .second, .val (.long (own_j0_45_0 j2 j3)), .second, .val (.long (own_j0_66_0 i1 j4)), .second, .val (.long (j5 &&& (9223372036854775807 : Int64))), .second, .val (.long (own_j0_104_0 i1 j4)), .second, .val (.long (own_r1 (j5 &&& (9223372036854775807 : Int64)))), .second, .val (.ref b31_0)] [(.int (lcmpW (own_j2_6_0 (own_j0_66_0 i1 j4)) (own_j0_104_0 i1 j4)))])) _
          refine XS.ifNo X38.here hx rfl (hb hby at_184) rfl ((if0 _ _).trans (teq ((lw_eq (own_j2_6_0 (own_j0_66_0 i1 j4)) (own_j0_104_0 i1 j4)).mpr hc184_40)).2) ?_
          show Steps p.tables e below (T38.setTop (mkF m 187 #[.val (.int i1), .val (.long j2), .second, .val (.long j3), .second, .val (.long j4), .second, .val (.long j5), .second, .val (.int (own_j0_3_0 i1)), .val (.int (own_j0_16_0 i1)), .val (.long (j2 &&& (9223372036854775807 : Int64))), .second, .val (.long (j3 &&& (9223372036854775807 : Int64))), .second, .val (.long (own_j0_45_0 j2 j3)), .second, .val (.long (own_j0_66_0 i1 j4)), .second, .val (.long (j5 &&& (9223372036854775807 : Int64))), .second, .val (.long (own_j0_104_0 i1 j4)), .second, .val (.long (own_r1 (j5 &&& (9223372036854775807 : Int64)))), .second, .val (.ref b31_0)] [])) _
          refine XS.aload X38.here hx rfl (hb hby at_187) rfl rfl ?_
          show Steps p.tables e below (T38.setTop (mkF m 189 #[.val (.int i1), .val (.long j2), .second, .val (.long j3), .second, .val (.long j4), .second, .val (.long j5), .second, .val (.int (own_j0_3_0 i1)), .val (.int (own_j0_16_0 i1)), .val (.long (j2 &&& (9223372036854775807 : Int64))), .second, .val (.long (j3 &&& (9223372036854775807 : Int64))), .second, .val (.long (own_j0_45_0 j2 j3)), .second, .val (.long (own_j0_66_0 i1 j4)), .second, .val (.long (j5 &&& (9223372036854775807 : Int64))), .second, .val (.long (own_j0_104_0 i1 j4)), .second, .val (.long (own_r1 (j5 &&& (9223372036854775807 : Int64)))), .second, .val (.ref b31_0)] [(.ref b31_0)])) _
          refine st41.trans ?_
          show Steps p.tables e below (T41.setTop (mkF m 192 #[.val (.int i1), .val (.long j2), .second, .val (.long j3), .second, .val (.long j4), .second, .val (.long j5), .second, .val (.int (own_j0_3_0 i1)), .val (.int (own_j0_16_0 i1)), .val (.long (j2 &&& (9223372036854775807 : Int64))), .second, .val (.long (j3 &&& (9223372036854775807 : Int64))), .second, .val (.long (own_j0_45_0 j2 j3)), .second, .val (.long (own_j0_66_0 i1 j4)), .second, .val (.long (j5 &&& (9223372036854775807 : Int64))), .second, .val (.long (own_j0_104_0 i1 j4)), .second, .val (.long (own_r1 (j5 &&& (9223372036854775807 : Int64)))), .second, .val (.ref b31_0)] [(.long (-(own_r4 (-(j5 &&& (9223372036854775807 : Int64))) (1000 : Int64))))])) _
          refine XS.lload X41.here hx rfl (hb hby at_192) rfl ?_
          show Steps p.tables e below (T41.setTop (mkF m 194 #[.val (.int i1), .val (.long j2), .second, .val (.long j3), .second, .val (.long j4), .second, .val (.long j5), .second, .val (.int (own_j0_3_0 i1)), .val (.int (own_j0_16_0 i1)), .val (.long (j2 &&& (9223372036854775807 : Int64))), .second, .val (.long (j3 &&& (9223372036854775807 : Int64))), .second, .val (.long (own_j0_45_0 j2 j3)), .second, .val (.long (own_j0_66_0 i1 j4)), .second, .val (.long (j5 &&& (9223372036854775807 : Int64))), .second, .val (.long (own_j0_104_0 i1 j4)), .second, .val (.long (own_r1 (j5 &&& (9223372036854775807 : Int64)))), .second, .val (.ref b31_0)] [(.long (own_r1 (j5 &&& (9223372036854775807 : Int64)))), (.long (-(own_r4 (-(j5 &&& (9223372036854775807 : Int64))) (1000 : Int64))))])) _
          refine XS.lcmp X41.here hx rfl (hb hby at_194) rfl ?_
          exact k
        by_cases hc195_43 : (-(own_r4 (-(j5 &&& (9223372036854775807 : Int64))) (1000 : Int64))) = (own_r1 (j5 &&& (9223372036854775807 : Int64)))
        · obtain ⟨cq44, kq44, q44a, q44b, q44c⟩ := isOf hZ e41 f31_0
          obtain ⟨_, _, ⟨T44, L44, k44, n44⟩, -, X44, ⟨Lc44, hQ44, l44, y44, z44⟩, st44⟩ := X41.virtualBack hx (y := (⟨"com/example/burst/burst/Decision", "degraded", "()Z"⟩ : MethodName)) (z := (⟨"com/example/burst/burst/Decision", "degraded", "()Z"⟩ : MethodName)) hown (mvT hZ (hw _ (List.mem_of_getElem? (i := 75) rfl))) (mvT hZ (hw _ (List.mem_of_getElem? (i := 76) rfl))) (notFace_of_selects (args := #[]) (mvT hZ (hw _ (List.mem_of_getElem? (i := 78) rfl)))) (mvT hZ (hw _ (List.mem_of_getElem? (i := 78) rfl))) (mvT hZ (hw _ (List.mem_of_getElem? (i := 77) rfl))) (by decide) (backOf (W := 0) (rm14 l Z a0 hw [] b31_0 (nar .boolean (0 : Int32)) T31.heap n0 (Nat.le_trans Z0 K32.1) f31_6) hZ (hw _ (List.mem_of_getElem? (i := 79) rfl)) (hw _ (List.mem_of_getElem? (i := 22) rfl)) (by decide) (by decide)) q44a q44c (g := (mkF m 200 #[.val (.int i1), .val (.long j2), .second, .val (.long j3), .second, .val (.long j4), .second, .val (.long j5), .second, .val (.int (own_j0_3_0 i1)), .val (.int (own_j0_16_0 i1)), .val (.long (j2 &&& (9223372036854775807 : Int64))), .second, .val (.long (j3 &&& (9223372036854775807 : Int64))), .second, .val (.long (own_j0_45_0 j2 j3)), .second, .val (.long (own_j0_66_0 i1 j4)), .second, .val (.long (j5 &&& (9223372036854775807 : Int64))), .second, .val (.long (own_j0_104_0 i1 j4)), .second, .val (.long (own_r1 (j5 &&& (9223372036854775807 : Int64)))), .second, .val (.ref b31_0)] [(.ref b31_0)])) rfl (by rw [hml]; rfl) (Steps.refl _) (argsL := []) (rest := []) (lenOf pd_6 rfl) rfl (by show 2 * 0 + _ ≤ _; exact Nat.le_of_eq rfl) (hb hby at_200) (fun _ _ => ⟨rfl, e41, (by decide : 1 + 0 ≤ _), (by decide : 6 + 0 ≤ _)⟩)
          dsimp only [Pt.U, Pt.locs, Pt.cells, Pt.slots] at X44 l44 y44 z44 st44 hQ44
          subst l44 y44 z44
          obtain ⟨rfl, Nq44, e44⟩ := hQ44
          have N44 := Fr.app N41 Nq44
          have pre45 : ∀ t, Steps p.tables e below (T44.setTop (mkF m 203 #[.val (.int i1), .val (.long j2), .second, .val (.long j3), .second, .val (.long j4), .second, .val (.long j5), .second, .val (.int (own_j0_3_0 i1)), .val (.int (own_j0_16_0 i1)), .val (.long (j2 &&& (9223372036854775807 : Int64))), .second, .val (.long (j3 &&& (9223372036854775807 : Int64))), .second, .val (.long (own_j0_45_0 j2 j3)), .second, .val (.long (own_j0_66_0 i1 j4)), .second, .val (.long (j5 &&& (9223372036854775807 : Int64))), .second, .val (.long (own_j0_104_0 i1 j4)), .second, .val (.long (own_r1 (j5 &&& (9223372036854775807 : Int64)))), .second, .val (.ref b31_0)] [(.int (nar .boolean (nar .boolean (0 : Int32))))])) t → Steps p.tables e below (s₁.setTop (entryFrame m #[(.int i1), (.long j2), (.long j3), (.long j4), (.long j5)] maxLocals)) t := by
            intro t k
            refine pre42 _ ?_
            show Steps p.tables e below (T41.setTop (mkF m 195 #[.val (.int i1), .val (.long j2), .second, .val (.long j3), .second, .val (.long j4), .second, .val (.long j5), .second, .val (.int (own_j0_3_0 i1)), .val (.int (own_j0_16_0 i1)), .val (.long (j2 &&& (9223372036854775807 : Int64))), .second, .val (.long (j3 &&& (9223372036854775807 : Int64))), .second, .val (.long (own_j0_45_0 j2 j3)), .second, .val (.long (own_j0_66_0 i1 j4)), .second, .val (.long (j5 &&& (9223372036854775807 : Int64))), .second, .val (.long (own_j0_104_0 i1 j4)), .second, .val (.long (own_r1 (j5 &&& (9223372036854775807 : Int64)))), .second, .val (.ref b31_0)] [(.int (lcmpW (-(own_r4 (-(j5 &&& (9223372036854775807 : Int64))) (1000 : Int64))) (own_r1 (j5 &&& (9223372036854775807 : Int64)))))])) _
            refine XS.ifNo X41.here hx rfl (hb hby at_195) rfl ((if0 _ _).trans (teq ((lw_eq (-(own_r4 (-(j5 &&& (9223372036854775807 : Int64))) (1000 : Int64))) (own_r1 (j5 &&& (9223372036854775807 : Int64)))).mpr hc195_43)).2) ?_
            show Steps p.tables e below (T41.setTop (mkF m 198 #[.val (.int i1), .val (.long j2), .second, .val (.long j3), .second, .val (.long j4), .second, .val (.long j5), .second, .val (.int (own_j0_3_0 i1)), .val (.int (own_j0_16_0 i1)), .val (.long (j2 &&& (9223372036854775807 : Int64))), .second, .val (.long (j3 &&& (9223372036854775807 : Int64))), .second, .val (.long (own_j0_45_0 j2 j3)), .second, .val (.long (own_j0_66_0 i1 j4)), .second, .val (.long (j5 &&& (9223372036854775807 : Int64))), .second, .val (.long (own_j0_104_0 i1 j4)), .second, .val (.long (own_r1 (j5 &&& (9223372036854775807 : Int64)))), .second, .val (.ref b31_0)] [])) _
            refine XS.aload X41.here hx rfl (hb hby at_198) rfl rfl ?_
            show Steps p.tables e below (T41.setTop (mkF m 200 #[.val (.int i1), .val (.long j2), .second, .val (.long j3), .second, .val (.long j4), .second, .val (.long j5), .second, .val (.int (own_j0_3_0 i1)), .val (.int (own_j0_16_0 i1)), .val (.long (j2 &&& (9223372036854775807 : Int64))), .second, .val (.long (j3 &&& (9223372036854775807 : Int64))), .second, .val (.long (own_j0_45_0 j2 j3)), .second, .val (.long (own_j0_66_0 i1 j4)), .second, .val (.long (j5 &&& (9223372036854775807 : Int64))), .second, .val (.long (own_j0_104_0 i1 j4)), .second, .val (.long (own_r1 (j5 &&& (9223372036854775807 : Int64)))), .second, .val (.ref b31_0)] [(.ref b31_0)])) _
            refine st44.trans ?_
            exact k
          by_cases hc203_46 : (nar .boolean (nar .boolean (0 : Int32))) = (0 : Int32)
          · have pre47 : ∀ t, Steps p.tables e below (T44.setTop (mkF m 211 #[.val (.int i1), .val (.long j2), .second, .val (.long j3), .second, .val (.long j4), .second, .val (.long j5), .second, .val (.int (own_j0_3_0 i1)), .val (.int (own_j0_16_0 i1)), .val (.long (j2 &&& (9223372036854775807 : Int64))), .second, .val (.long (j3 &&& (9223372036854775807 : Int64))), .second, .val (.long (own_j0_45_0 j2 j3)), .second, .val (.long (own_j0_66_0 i1 j4)), .second, .val (.long (j5 &&& (9223372036854775807 : Int64))), .second, .val (.long (own_j0_104_0 i1 j4)), .second, .val (.long (own_r1 (j5 &&& (9223372036854775807 : Int64)))), .second, .val (.ref b31_0)] [(.int (1 : Int32))])) t → Steps p.tables e below (s₁.setTop (entryFrame m #[(.int i1), (.long j2), (.long j3), (.long j4), (.long j5)] maxLocals)) t := by
              intro t k
              refine pre45 _ ?_
              show Steps p.tables e below (T44.setTop (mkF m 203 #[.val (.int i1), .val (.long j2), .second, .val (.long j3), .second, .val (.long j4), .second, .val (.long j5), .second, .val (.int (own_j0_3_0 i1)), .val (.int (own_j0_16_0 i1)), .val (.long (j2 &&& (9223372036854775807 : Int64))), .second, .val (.long (j3 &&& (9223372036854775807 : Int64))), .second, .val (.long (own_j0_45_0 j2 j3)), .second, .val (.long (own_j0_66_0 i1 j4)), .second, .val (.long (j5 &&& (9223372036854775807 : Int64))), .second, .val (.long (own_j0_104_0 i1 j4)), .second, .val (.long (own_r1 (j5 &&& (9223372036854775807 : Int64)))), .second, .val (.ref b31_0)] [(.int (nar .boolean (nar .boolean (0 : Int32))))])) _
              refine XS.ifNo X44.here hx rfl (hb hby at_203) rfl ((if0 _ _).trans (teq hc203_46).2) ?_
              show Steps p.tables e below (T44.setTop (mkF m 206 #[.val (.int i1), .val (.long j2), .second, .val (.long j3), .second, .val (.long j4), .second, .val (.long j5), .second, .val (.int (own_j0_3_0 i1)), .val (.int (own_j0_16_0 i1)), .val (.long (j2 &&& (9223372036854775807 : Int64))), .second, .val (.long (j3 &&& (9223372036854775807 : Int64))), .second, .val (.long (own_j0_45_0 j2 j3)), .second, .val (.long (own_j0_66_0 i1 j4)), .second, .val (.long (j5 &&& (9223372036854775807 : Int64))), .second, .val (.long (own_j0_104_0 i1 j4)), .second, .val (.long (own_r1 (j5 &&& (9223372036854775807 : Int64)))), .second, .val (.ref b31_0)] [])) _
              refine XS.iconst X44.here hx rfl (hb hby at_206) ?_
              show Steps p.tables e below (T44.setTop (mkF m 207 #[.val (.int i1), .val (.long j2), .second, .val (.long j3), .second, .val (.long j4), .second, .val (.long j5), .second, .val (.int (own_j0_3_0 i1)), .val (.int (own_j0_16_0 i1)), .val (.long (j2 &&& (9223372036854775807 : Int64))), .second, .val (.long (j3 &&& (9223372036854775807 : Int64))), .second, .val (.long (own_j0_45_0 j2 j3)), .second, .val (.long (own_j0_66_0 i1 j4)), .second, .val (.long (j5 &&& (9223372036854775807 : Int64))), .second, .val (.long (own_j0_104_0 i1 j4)), .second, .val (.long (own_r1 (j5 &&& (9223372036854775807 : Int64)))), .second, .val (.ref b31_0)] [(.int (1 : Int32))])) _
              refine XS.goto X44.here hx rfl (pc0 := 207) (pc' := 211) rfl (hb hby at_207) (by decide) (by decide) ?_
              exact k
            exact ⟨T44, _, X44, N44, e44, fun t k => pre47 t (by rw [show (own_j0_151_0 i1 j4 j5) = (1 : Int32) from ((if_pos hc151_35).trans ((if_pos hc184_40).trans ((if_pos hc195_43).trans (if_pos hc203_46))))] at k; exact k)⟩
          · have pre48 : ∀ t, Steps p.tables e below (T44.setTop (mkF m 211 #[.val (.int i1), .val (.long j2), .second, .val (.long j3), .second, .val (.long j4), .second, .val (.long j5), .second, .val (.int (own_j0_3_0 i1)), .val (.int (own_j0_16_0 i1)), .val (.long (j2 &&& (9223372036854775807 : Int64))), .second, .val (.long (j3 &&& (9223372036854775807 : Int64))), .second, .val (.long (own_j0_45_0 j2 j3)), .second, .val (.long (own_j0_66_0 i1 j4)), .second, .val (.long (j5 &&& (9223372036854775807 : Int64))), .second, .val (.long (own_j0_104_0 i1 j4)), .second, .val (.long (own_r1 (j5 &&& (9223372036854775807 : Int64)))), .second, .val (.ref b31_0)] [(.int (0 : Int32))])) t → Steps p.tables e below (s₁.setTop (entryFrame m #[(.int i1), (.long j2), (.long j3), (.long j4), (.long j5)] maxLocals)) t := by
              intro t k
              refine pre45 _ ?_
              show Steps p.tables e below (T44.setTop (mkF m 203 #[.val (.int i1), .val (.long j2), .second, .val (.long j3), .second, .val (.long j4), .second, .val (.long j5), .second, .val (.int (own_j0_3_0 i1)), .val (.int (own_j0_16_0 i1)), .val (.long (j2 &&& (9223372036854775807 : Int64))), .second, .val (.long (j3 &&& (9223372036854775807 : Int64))), .second, .val (.long (own_j0_45_0 j2 j3)), .second, .val (.long (own_j0_66_0 i1 j4)), .second, .val (.long (j5 &&& (9223372036854775807 : Int64))), .second, .val (.long (own_j0_104_0 i1 j4)), .second, .val (.long (own_r1 (j5 &&& (9223372036854775807 : Int64)))), .second, .val (.ref b31_0)] [(.int (nar .boolean (nar .boolean (0 : Int32))))])) _
              refine XS.ifYes X44.here hx rfl (pc0 := 203) (pc' := 210) rfl (hb hby at_203) rfl ((if0 _ _).trans (feq hc203_46).2) (by decide) (by decide) ?_
              show Steps p.tables e below (T44.setTop (mkF m 210 #[.val (.int i1), .val (.long j2), .second, .val (.long j3), .second, .val (.long j4), .second, .val (.long j5), .second, .val (.int (own_j0_3_0 i1)), .val (.int (own_j0_16_0 i1)), .val (.long (j2 &&& (9223372036854775807 : Int64))), .second, .val (.long (j3 &&& (9223372036854775807 : Int64))), .second, .val (.long (own_j0_45_0 j2 j3)), .second, .val (.long (own_j0_66_0 i1 j4)), .second, .val (.long (j5 &&& (9223372036854775807 : Int64))), .second, .val (.long (own_j0_104_0 i1 j4)), .second, .val (.long (own_r1 (j5 &&& (9223372036854775807 : Int64)))), .second, .val (.ref b31_0)] [])) _
              refine XS.iconst X44.here hx rfl (hb hby at_210) ?_
              exact k
            exact ⟨T44, _, X44, N44, e44, fun t k => pre48 t (by rw [show (own_j0_151_0 i1 j4 j5) = (0 : Int32) from ((if_pos hc151_35).trans ((if_pos hc184_40).trans ((if_pos hc195_43).trans (if_neg hc203_46))))] at k; exact k)⟩
        · have pre49 : ∀ t, Steps p.tables e below (T41.setTop (mkF m 211 #[.val (.int i1), .val (.long j2), .second, .val (.long j3), .second, .val (.long j4), .second, .val (.long j5), .second, .val (.int (own_j0_3_0 i1)), .val (.int (own_j0_16_0 i1)), .val (.long (j2 &&& (9223372036854775807 : Int64))), .second, .val (.long (j3 &&& (9223372036854775807 : Int64))), .second, .val (.long (own_j0_45_0 j2 j3)), .second, .val (.long (own_j0_66_0 i1 j4)), .second, .val (.long (j5 &&& (9223372036854775807 : Int64))), .second, .val (.long (own_j0_104_0 i1 j4)), .second, .val (.long (own_r1 (j5 &&& (9223372036854775807 : Int64)))), .second, .val (.ref b31_0)] [(.int (0 : Int32))])) t → Steps p.tables e below (s₁.setTop (entryFrame m #[(.int i1), (.long j2), (.long j3), (.long j4), (.long j5)] maxLocals)) t := by
            intro t k
            refine pre42 _ ?_
            show Steps p.tables e below (T41.setTop (mkF m 195 #[.val (.int i1), .val (.long j2), .second, .val (.long j3), .second, .val (.long j4), .second, .val (.long j5), .second, .val (.int (own_j0_3_0 i1)), .val (.int (own_j0_16_0 i1)), .val (.long (j2 &&& (9223372036854775807 : Int64))), .second, .val (.long (j3 &&& (9223372036854775807 : Int64))), .second, .val (.long (own_j0_45_0 j2 j3)), .second, .val (.long (own_j0_66_0 i1 j4)), .second, .val (.long (j5 &&& (9223372036854775807 : Int64))), .second, .val (.long (own_j0_104_0 i1 j4)), .second, .val (.long (own_r1 (j5 &&& (9223372036854775807 : Int64)))), .second, .val (.ref b31_0)] [(.int (lcmpW (-(own_r4 (-(j5 &&& (9223372036854775807 : Int64))) (1000 : Int64))) (own_r1 (j5 &&& (9223372036854775807 : Int64)))))])) _
            refine XS.ifYes X41.here hx rfl (pc0 := 195) (pc' := 210) rfl (hb hby at_195) rfl ((if0 _ _).trans (feq (mt (lw_eq (-(own_r4 (-(j5 &&& (9223372036854775807 : Int64))) (1000 : Int64))) (own_r1 (j5 &&& (9223372036854775807 : Int64)))).mp hc195_43)).2) (by decide) (by decide) ?_
            show Steps p.tables e below (T41.setTop (mkF m 210 #[.val (.int i1), .val (.long j2), .second, .val (.long j3), .second, .val (.long j4), .second, .val (.long j5), .second, .val (.int (own_j0_3_0 i1)), .val (.int (own_j0_16_0 i1)), .val (.long (j2 &&& (9223372036854775807 : Int64))), .second, .val (.long (j3 &&& (9223372036854775807 : Int64))), .second, .val (.long (own_j0_45_0 j2 j3)), .second, .val (.long (own_j0_66_0 i1 j4)), .second, .val (.long (j5 &&& (9223372036854775807 : Int64))), .second, .val (.long (own_j0_104_0 i1 j4)), .second, .val (.long (own_r1 (j5 &&& (9223372036854775807 : Int64)))), .second, .val (.ref b31_0)] [])) _
            refine XS.iconst X41.here hx rfl (hb hby at_210) ?_
            exact k
          exact ⟨T41, _, X41, N41, e41, fun t k => pre49 t (by rw [show (own_j0_151_0 i1 j4 j5) = (0 : Int32) from ((if_pos hc151_35).trans ((if_pos hc184_40).trans (if_neg hc195_43)))] at k; exact k)⟩
      · have pre50 : ∀ t, Steps p.tables e below (T38.setTop (mkF m 211 #[.val (.int i1), .val (.long j2), .second, .val (.long j3), .second, .val (.long j4), .second, .val (.long j5), .second, .val (.int (own_j0_3_0 i1)), .val (.int (own_j0_16_0 i1)), .val (.long (j2 &&& (9223372036854775807 : Int64))), .second, .val (.long (j3 &&& (9223372036854775807 : Int64))), .second, .val (.long (own_j0_45_0 j2 j3)), .second, .val (.long (own_j0_66_0 i1 j4)), .second, .val (.long (j5 &&& (9223372036854775807 : Int64))), .second, .val (.long (own_j0_104_0 i1 j4)), .second, .val (.long (own_r1 (j5 &&& (9223372036854775807 : Int64)))), .second, .val (.ref b31_0)] [(.int (0 : Int32))])) t → Steps p.tables e below (s₁.setTop (entryFrame m #[(.int i1), (.long j2), (.long j3), (.long j4), (.long j5)] maxLocals)) t := by
          intro t k
          refine pre39 _ ?_
          show Steps p.tables e below (T38.setTop (mkF m 184 #[.val (.int i1), .val (.long j2), .second, .val (.long j3), .second, .val (.long j4), .second, .val (.long j5), .second, .val (.int (own_j0_3_0 i1)), .val (.int (own_j0_16_0 i1)), .val (.long (j2 &&& (9223372036854775807 : Int64))), .second, .val (.long (j3 &&& (9223372036854775807 : Int64))), .second, .val (.long (own_j0_45_0 j2 j3)), .second, .val (.long (own_j0_66_0 i1 j4)), .second, .val (.long (j5 &&& (9223372036854775807 : Int64))), .second, .val (.long (own_j0_104_0 i1 j4)), .second, .val (.long (own_r1 (j5 &&& (9223372036854775807 : Int64)))), .second, .val (.ref b31_0)] [(.int (lcmpW (own_j2_6_0 (own_j0_66_0 i1 j4)) (own_j0_104_0 i1 j4)))])) _
          refine XS.ifYes X38.here hx rfl (pc0 := 184) (pc' := 210) rfl (hb hby at_184) rfl ((if0 _ _).trans (feq (mt (lw_eq (own_j2_6_0 (own_j0_66_0 i1 j4)) (own_j0_104_0 i1 j4)).mp hc184_40)).2) (by decide) (by decide) ?_
          show Steps p.tables e below (T38.setTop (mkF m 210 #[.val (.int i1), .val (.long j2), .second, .val (.long j3), .second, .val (.long j4), .second, .val (.long j5), .second, .val (.int (own_j0_3_0 i1)), .val (.int (own_j0_16_0 i1)), .val (.long (j2 &&& (9223372036854775807 : Int64))), .second, .val (.long (j3 &&& (9223372036854775807 : Int64))), .second, .val (.long (own_j0_45_0 j2 j3)), .second, .val (.long (own_j0_66_0 i1 j4)), .second, .val (.long (j5 &&& (9223372036854775807 : Int64))), .second, .val (.long (own_j0_104_0 i1 j4)), .second, .val (.long (own_r1 (j5 &&& (9223372036854775807 : Int64)))), .second, .val (.ref b31_0)] [])) _
          refine XS.iconst X38.here hx rfl (hb hby at_210) ?_
          exact k
        exact ⟨T38, _, X38, N38, e38, fun t k => pre50 t (by rw [show (own_j0_151_0 i1 j4 j5) = (0 : Int32) from ((if_pos hc151_35).trans (if_neg hc184_40))] at k; exact k)⟩
    · have pre51 : ∀ t, Steps p.tables e below (T33.setTop (mkF m 211 #[.val (.int i1), .val (.long j2), .second, .val (.long j3), .second, .val (.long j4), .second, .val (.long j5), .second, .val (.int (own_j0_3_0 i1)), .val (.int (own_j0_16_0 i1)), .val (.long (j2 &&& (9223372036854775807 : Int64))), .second, .val (.long (j3 &&& (9223372036854775807 : Int64))), .second, .val (.long (own_j0_45_0 j2 j3)), .second, .val (.long (own_j0_66_0 i1 j4)), .second, .val (.long (j5 &&& (9223372036854775807 : Int64))), .second, .val (.long (own_j0_104_0 i1 j4)), .second, .val (.long (own_r1 (j5 &&& (9223372036854775807 : Int64)))), .second, .val (.ref b31_0)] [(.int (0 : Int32))])) t → Steps p.tables e below (s₁.setTop (entryFrame m #[(.int i1), (.long j2), (.long j3), (.long j4), (.long j5)] maxLocals)) t := by
        intro t k
        refine pre34 _ ?_
        show Steps p.tables e below (T33.setTop (mkF m 151 #[.val (.int i1), .val (.long j2), .second, .val (.long j3), .second, .val (.long j4), .second, .val (.long j5), .second, .val (.int (own_j0_3_0 i1)), .val (.int (own_j0_16_0 i1)), .val (.long (j2 &&& (9223372036854775807 : Int64))), .second, .val (.long (j3 &&& (9223372036854775807 : Int64))), .second, .val (.long (own_j0_45_0 j2 j3)), .second, .val (.long (own_j0_66_0 i1 j4)), .second, .val (.long (j5 &&& (9223372036854775807 : Int64))), .second, .val (.long (own_j0_104_0 i1 j4)), .second, .val (.long (own_r1 (j5 &&& (9223372036854775807 : Int64)))), .second, .val (.ref b31_0)] [(.int (own_j0_3_0 i1)), (.int (nar .boolean (nar .boolean (own_j0_3_0 i1))))])) _
        refine XS.icmpYes X33.here hx rfl (pc0 := 151) (pc' := 210) rfl (hb hby at_151) rfl (feq hc151_35).2 (by decide) (by decide) ?_
        show Steps p.tables e below (T33.setTop (mkF m 210 #[.val (.int i1), .val (.long j2), .second, .val (.long j3), .second, .val (.long j4), .second, .val (.long j5), .second, .val (.int (own_j0_3_0 i1)), .val (.int (own_j0_16_0 i1)), .val (.long (j2 &&& (9223372036854775807 : Int64))), .second, .val (.long (j3 &&& (9223372036854775807 : Int64))), .second, .val (.long (own_j0_45_0 j2 j3)), .second, .val (.long (own_j0_66_0 i1 j4)), .second, .val (.long (j5 &&& (9223372036854775807 : Int64))), .second, .val (.long (own_j0_104_0 i1 j4)), .second, .val (.long (own_r1 (j5 &&& (9223372036854775807 : Int64)))), .second, .val (.ref b31_0)] [])) _
        refine XS.iconst X33.here hx rfl (hb hby at_210) ?_
        exact k
      exact ⟨T33, _, X33, N33, e33, fun t k => pre51 t (by rw [show (own_j0_151_0 i1 j4 j5) = (0 : Int32) from (if_neg hc151_35)] at k; exact k)⟩
  obtain ⟨fs, hr, hrun, hended, hW, hsame⟩ := X52.leave (v := some (.int (nar .boolean (own_j0_151_0 i1 j4 j5)))) (fun h => by rw [Bd.returns] at h; cases h)
  refine ⟨_, _, pre52 _ ?_, hrun, hended, _, _, rfl, ?_, ⟨_, rfl⟩, hW, hsame.mono (by decide) (by decide)⟩
  · show Steps p.tables e below (T52.setTop (mkF m 211 #[.val (.int i1), .val (.long j2), .second, .val (.long j3), .second, .val (.long j4), .second, .val (.long j5), .second, .val (.int (own_j0_3_0 i1)), .val (.int (own_j0_16_0 i1)), .val (.long (j2 &&& (9223372036854775807 : Int64))), .second, .val (.long (j3 &&& (9223372036854775807 : Int64))), .second, .val (.long (own_j0_45_0 j2 j3)), .second, .val (.long (own_j0_66_0 i1 j4)), .second, .val (.long (j5 &&& (9223372036854775807 : Int64))), .second, .val (.long (own_j0_104_0 i1 j4)), .second, .val (.long (own_r1 (j5 &&& (9223372036854775807 : Int64)))), .second, .val (.ref b31_0)] [(.int (own_j0_151_0 i1 j4 j5))])) _
    exact retN X52 hx (t := .boolean) Bd.returns (by simp) (hb hby at_211) hr
  · show Q0 Z i1 j2 j3 j4 j5 h0 n0 _ T52.heap _
    rw [e52]
    exact ⟨rfl, N52⟩
theorem own_law (i1 : Int32) (j2 : Int64) (j3 : Int64) (j4 : Int64) (j5 : Int64) : (nar .boolean (own_j0_151_0 i1 j4 j5)) = 1 := by
  apply own_nar1
  have e3 : nar .boolean (nar .boolean (own_j0_3_0 i1)) = own_j0_3_0 i1 := by
    have : own_j0_3_0 i1 = 0 ∨ own_j0_3_0 i1 = 1 := by unfold own_j0_3_0; split <;> simp
    rcases this with e | e <;> rw [e] <;> rfl
  unfold own_j0_151_0
  rw [if_pos e3, if_pos (own_26 i1 j4).1, if_pos (own_ceil _ (own_m63 j5)).1]
  decide
set_option maxRecDepth 65536 in
set_option maxHeartbeats 40000000 in
theorem comes_1 {Post : Tables → Env → Array Value → State → Outcome → State → Prop} (hpost : ∀ tb e args s v u, (limb_1_1.after args s (.returned v) u = true ∧ limb_1_2.after args s (.returned v) u = true ∧ True) → FrameEnd s (.returned v) u (Jvm.fieldLocs frame_1_writes args s ++ Jvm.arrayLocs frame_1_arrays args s ++ Jvm.staticLocs frame_1_statics s) 16 128 → Post tb e args s (.returned v) u) :
    ArmFor flags0 classFile x code maxLocals ret World_1 tables_1 room_1 Calls_1 rest_1 Pre_1 Post := by
  intro l hfl _ _ p e ha hc hk s m args below hf hA hF happ hP
  obtain ⟨hcalls, hrest, hpre⟩ := hP
  obtain ⟨-, -, -, hnamed, -, -, -, hat⟩ := (Spec.applies_iff hf).mp happ
  obtain ⟨hg, hn⟩ := and_e (Cond.before_iff.mp (show (Jvm.Cond.and given_1 narrow_1).before args s = true from hpre))
  obtain ⟨g1, g2⟩ := and_e hg
  obtain ⟨g3, g4⟩ := and_e g2
  obtain ⟨g5, g6⟩ := and_e g4
  obtain ⟨g7, g8⟩ := and_e g6
  obtain ⟨g9, g10⟩ := and_e g8
  obtain ⟨w0, w1, w2, w3, w4, rfl⟩ : ∃ w0 w1 w2 w3 w4 : Value, args = #[w0, w1, w2, w3, w4] := by
    have hs : args.size = 5 := by simpa [Cond.value, given_1] using g1
    obtain ⟨L⟩ := args
    match L, hs with
    | [w0, w1, w2, w3, w4], _ => exact ⟨w0, w1, w2, w3, w4, rfl⟩
  have hw := fun d (hd : d ∈ tables_1) => atoms_spec (ws := Jvm.Cond.code x code maxLocals ret :: tables_1) hat d (List.mem_cons_of_mem _ hd)
  have hfit : Fit s := fun {y c} hc i hi => by
    obtain ⟨ha, rfl⟩ := Array.getElem?_eq_some_iff.mp hc
    have q := List.all_eq_true.mp ((Array.all_eq_true_iff_forall_mem.mp hF) _ (Array.getElem_mem ha)) i (List.mem_range.mpr hi)
    simpa [Array.getElem?_eq_getElem hi] using q
  obtain ⟨i0, ei0⟩ := is_v g3
  obtain rfl : w0 = (.int i0) := Option.some.inj ei0
  obtain ⟨i1, ei1⟩ := isL_v g5
  obtain rfl : w1 = (.long i1) := Option.some.inj ei1
  obtain ⟨i2, ei2⟩ := isL_v g7
  obtain rfl : w2 = (.long i2) := Option.some.inj ei2
  obtain ⟨i3, ei3⟩ := isL_v g9
  obtain rfl : w3 = (.long i3) := Option.some.inj ei3
  obtain ⟨i4, ei4⟩ := isL_v g10
  obtain rfl : w4 = (.long i4) := Option.some.inj ei4
  obtain ⟨n, o, h1, h2, h3, _, L, rfl, ⟨hv, N⟩, hq⟩ := rm0 l s _ hw tables_1 i0 i1 i2 i3 i4 s.heap s.heap.size (Nat.le_refl _)  p e ha hc hk s m _ below hf ((Spec.applies_iff_loose hf).mp happ).1 ⟨rfl, State.Warmed39.refl s, rfl⟩ trivial
  rw [show (nar .boolean (own_j0_151_0 i0 i3 i4)) = 1 from own_law i0 i1 i2 i3 i4] at hv
  subst hv
  refine ⟨n, _, h1, h2, h3, hpost _ _ _ _ _ _ ⟨Cond.after_iff.mpr rfl, Cond.after_iff.mpr (eq_i res_at (Term.int_eval (1)) rfl), trivial⟩ ⟨hq.1, hq.2.1, (hq.2.2.sift fun y hy => Or.inr (N y hy)).mono (by decide) (by decide)⟩⟩
theorem main_1_1 : Claimed_1_1 := comes_1 fun _ _ _ _ _ _ h hF => ⟨h.1, hF⟩
theorem main_1_2 : Claimed_1_2 := comes_1 fun _ _ _ _ _ _ h hF => ⟨h.2.1, hF⟩
end Jvm.Pilot.@@N@@
namespace Jvm.Pilot.@@N@@
open Jvm Jvm.ClassFile Sem Op Lib Jvm.Free Jvm.Stand Jvm.Pilot.@@N@@.Jvm.D
/-! MADE BY PROGRAM (witnessworld.py) out of the Statement's table words and the real class files: 12 classes; the members and pool entries that the words name. The judged class is class 1, her method 2. -/
namespace start1
open Jvm.ClassFile
def u (s : String) : CpInfo := .utf8 (stringToUtf16 s)
/-- a pool by its gaps: so many unusable entries, then the entry; so many at the end -/
def gap : Nat → List CpInfo → List CpInfo
  | 0, r => r
  | n + 1, r => .unusable :: gap n r
def poolList (es : List (Nat × CpInfo)) (last : Nat) : List CpInfo := es.foldr (fun e r => gap e.1 (e.2 :: r)) (gap last [])
def pool (es : List (Nat × CpInfo)) (last : Nat) : Array CpInfo := ⟨poolList es last⟩
def fileOf (pool : Array CpInfo) (this : Nat) (attrs : Array Attribute := #[]) (ms : Array MethodInfo := #[]) (fl : Nat := 33) (sup : Nat := 0) (ifs : Array Nat := #[]) (fds : Array FieldInfo := #[]) : ClassFile where
  minorVersion := 0
  majorVersion := 65
  constantPool := pool
  accessFlags := fl
  thisClass := this
  superClass := sup
  interfaces := ifs
  fields := fds
  methods := ms
  attributes := attrs
def plain (name : String) (sup : Option ClassId) : Class where
  name := name
  kind := .ordinary
  loader := none
  accessFlags := 33
  super := sup
  interfaces := #[]
  cf := none
  fields := #[]
  methods := #[]
  instanceTypes := #[]
  staticTypes := #[]
  resolved := #[]
  callSites := []
  init := .initialized
  statics := none
  mirror := none

def pool0 : Array CpInfo := pool [(5, u "<init>"), (0, u "()V"), (1, .class_ 10), (1, u "java/lang/Object")] 113

def k0c0 : Code := { maxStack := 0, maxLocals := 1, code := object_method_1_code, exceptionTable := #[], attributes := #[] }
def k0m0 : Method := { name := "<init>", desc := "()V", sig := { parameters := [], returnType := none }, accessFlags := 1, code := some k0c0 }
/-- java/lang/Object -/
def k0 : Class := { plain "java/lang/Object" none with
  accessFlags := 33
  interfaces := #[]
  cf := some (fileOf pool0 8 #[] #[{ accessFlags := 1, nameIndex := 5, descriptorIndex := 6, attributes := #[] }] 33 0 #[] #[])
  fields := #[]
  methods := #[k0m0]
  instanceTypes := #[]
  staticTypes := #[]
  resolved := Array.replicate 124 none
  statics := none }

def pool1 : Array CpInfo := pool [(2, .class_ 4), (1, u "java/lang/Object"), (0, u "<init>"), (0, u "()V"), (0, .long 1000), (3, .long 9223372036854775807), (1, .class_ 14), (0, u "com/example/burst/burst/Decision"), (0, .long 18446744073709551615), (1, .methodref 18 19), (0, .class_ 20), (0, .nameAndType 21 22), (0, u "com/example/burst/burst/MemoryRuleDecisionPinLaw"), (0, u "ceilMillis"), (0, u "(J)J"), (0, .interfaceMethodref 24 25), (0, .class_ 26), (0, .nameAndType 27 28), (0, u "com/example/burst/burst/MemoryRule"), (0, u "decision"), (0, u "(ZJJJJ)Lcom/example/burst/burst/Decision;"), (0, .methodref 13 30), (0, .nameAndType 31 32), (0, u "allowed"), (0, u "()Z"), (0, .methodref 13 34), (0, .nameAndType 35 36), (0, u "limit"), (0, u "()J"), (0, .methodref 13 38), (0, .nameAndType 39 36), (0, u "remaining"), (0, .methodref 13 41), (0, .nameAndType 42 36), (0, u "retryAfterMillis"), (0, .methodref 13 44), (0, .nameAndType 45 36), (0, u "resetAfterMillis"), (0, .methodref 13 47), (0, .nameAndType 48 32), (0, u "degraded"), (3, u "law"), (0, u "(IJJJJ)Z")] 2

def k1m0 : Method := { name := "<init>", desc := "()V", sig := { parameters := [], returnType := none }, accessFlags := 1, code := none }
def k1c1 : Code := { maxStack := 4, maxLocals := 4, code := method_2_code, exceptionTable := #[], attributes := #[] }
def k1m1 : Method := { name := "ceilMillis", desc := "(J)J", sig := { parameters := [.long], returnType := some .long }, accessFlags := 10, code := some k1c1 }
def k1c2 : Code := { maxStack := 9, maxLocals := 26, code := code, exceptionTable := #[], attributes := #[] }
def k1m2 : Method := { name := "law", desc := "(IJJJJ)Z", sig := { parameters := [.int, .long, .long, .long, .long], returnType := some .boolean }, accessFlags := 9, code := some k1c2 }
/-- com/example/burst/burst/MemoryRuleDecisionPinLaw -/
def k1 : Class := { plain "com/example/burst/burst/MemoryRuleDecisionPinLaw" (some 0) with
  accessFlags := 49
  interfaces := #[]
  cf := some (fileOf pool1 18 #[] #[{ accessFlags := 1, nameIndex := 5, descriptorIndex := 6, attributes := #[] }, { accessFlags := 10, nameIndex := 21, descriptorIndex := 22, attributes := #[] }, { accessFlags := 9, nameIndex := 52, descriptorIndex := 53, attributes := #[] }] 49 2 #[] #[])
  fields := #[]
  methods := #[k1m0, k1m1, k1m2]
  instanceTypes := #[]
  staticTypes := #[]
  resolved := Array.replicate 56 none
  statics := none }

def pool2 : Array CpInfo := pool [(1, .class_ 2), (0, u "com/example/burst/burst/Decision"), (0, .long 18446744073709551615), (1, .interfaceMethodref 6 7), (0, .class_ 8), (0, .nameAndType 9 10), (0, u "com/example/burst/burst/MemoryRule"), (0, u "millisRoundedUp"), (0, u "(J)J"), (0, .methodref 1 12), (0, .nameAndType 13 14), (0, u "<init>"), (0, u "(ZJJJJ)V"), (2, .long 1000), (1, .methodref 20 21), (0, .class_ 22), (0, .nameAndType 23 24), (0, u "java/lang/Math"), (0, u "floorDiv"), (0, u "(JJ)J"), (0, .class_ 26), (0, u "java/lang/Object"), (2, u "decision"), (0, u "(ZJJJJ)Lcom/example/burst/burst/Decision;"), (6, .class_ 38), (0, u "com/example/burst/burst/MemoryRule$Decided"), (0, .class_ 40), (0, u "com/example/burst/burst/MemoryRule$State")] 3

def k2c0 : Code := { maxStack := 11, maxLocals := 11, code := prog_8_method_2_code, exceptionTable := #[], attributes := #[] }
def k2m0 : Method := { name := "decision", desc := "(ZJJJJ)Lcom/example/burst/burst/Decision;", sig := { parameters := [.boolean, .long, .long, .long, .long], returnType := some (.object "com/example/burst/burst/Decision") }, accessFlags := 9, code := some k2c0 }
def k2c1 : Code := { maxStack := 4, maxLocals := 2, code := prog_8_method_3_code, exceptionTable := #[], attributes := #[] }
def k2m1 : Method := { name := "millisRoundedUp", desc := "(J)J", sig := { parameters := [.long], returnType := some .long }, accessFlags := 10, code := some k2c1 }
/-- com/example/burst/burst/MemoryRule -/
def k2 : Class := { plain "com/example/burst/burst/MemoryRule" (some 0) with
  accessFlags := 1536
  interfaces := #[]
  cf := some (fileOf pool2 6 #[.nestMembers #[37, 39]] #[{ accessFlags := 9, nameIndex := 29, descriptorIndex := 30, attributes := #[] }, { accessFlags := 10, nameIndex := 9, descriptorIndex := 10, attributes := #[] }] 1536 25 #[] #[])
  fields := #[]
  methods := #[k2m0, k2m1]
  instanceTypes := #[]
  staticTypes := #[]
  resolved := Array.replicate 44 none
  statics := none }

def pool3 : Array CpInfo := pool [(1, .class_ 2), (0, u "java/lang/Math"), (1, .class_ 6), (1, u "java/lang/Object"), (0, u "<init>"), (0, u "()V"), (89, .class_ 100), (1, u "java/lang/Math$RandomNumberGeneratorHolder"), (20, u "(JJ)J"), (23, u "floorDiv"), (26, u "negativeZeroFloatBits"), (0, u "J"), (2, u "negativeZeroDoubleBits"), (68, u "$assertionsDisabled"), (0, u "Z"), (91, u "twoToTheDoubleScaleDown"), (0, u "D"), (4, u "twoToTheDoubleScaleUp"), (9, u "E"), (3, u "PI"), (2, u "TAU"), (2, u "DEGREES_TO_RADIANS"), (0, u "RADIANS_TO_DEGREES")] 94

def k3m0 : Method := { name := "<init>", desc := "()V", sig := { parameters := [], returnType := none }, accessFlags := 2, code := none }
def k3c1 : Code := { maxStack := 4, maxLocals := 6, code := jdk_29_method_49_code, exceptionTable := #[], attributes := #[] }
def k3m1 : Method := { name := "floorDiv", desc := "(JJ)J", sig := { parameters := [.long, .long], returnType := some .long }, accessFlags := 9, code := some k3c1 }
/-- java/lang/Math -/
def k3 : Class := { plain "java/lang/Math" (some 0) with
  accessFlags := 49
  interfaces := #[]
  cf := some (fileOf pool3 1 #[.nestMembers #[98]] #[{ accessFlags := 2, nameIndex := 7, descriptorIndex := 8, attributes := #[] }, { accessFlags := 9, nameIndex := 145, descriptorIndex := 121, attributes := #[] }] 49 4 #[] #[{ accessFlags := 25, nameIndex := 354, descriptorIndex := 339, attributes := #[] }, { accessFlags := 25, nameIndex := 358, descriptorIndex := 339, attributes := #[] }, { accessFlags := 25, nameIndex := 361, descriptorIndex := 339, attributes := #[] }, { accessFlags := 26, nameIndex := 364, descriptorIndex := 339, attributes := #[] }, { accessFlags := 26, nameIndex := 365, descriptorIndex := 339, attributes := #[] }, { accessFlags := 26, nameIndex := 172, descriptorIndex := 173, attributes := #[] }, { accessFlags := 26, nameIndex := 176, descriptorIndex := 173, attributes := #[] }, { accessFlags := 8, nameIndex := 344, descriptorIndex := 339, attributes := #[] }, { accessFlags := 8, nameIndex := 338, descriptorIndex := 339, attributes := #[] }, { accessFlags := 4120, nameIndex := 245, descriptorIndex := 246, attributes := #[] }])
  fields := #[{ name := "E", type := .double, accessFlags := 25, slot := 0, constantValue := 0 }, { name := "PI", type := .double, accessFlags := 25, slot := 1, constantValue := 0 }, { name := "TAU", type := .double, accessFlags := 25, slot := 2, constantValue := 0 }, { name := "DEGREES_TO_RADIANS", type := .double, accessFlags := 26, slot := 3, constantValue := 0 }, { name := "RADIANS_TO_DEGREES", type := .double, accessFlags := 26, slot := 4, constantValue := 0 }, { name := "negativeZeroFloatBits", type := .long, accessFlags := 26, slot := 5, constantValue := 0 }, { name := "negativeZeroDoubleBits", type := .long, accessFlags := 26, slot := 6, constantValue := 0 }, { name := "twoToTheDoubleScaleUp", type := .double, accessFlags := 8, slot := 7, constantValue := 0 }, { name := "twoToTheDoubleScaleDown", type := .double, accessFlags := 8, slot := 8, constantValue := 0 }, { name := "$assertionsDisabled", type := .boolean, accessFlags := 4120, slot := 9, constantValue := 0 }]
  methods := #[k3m0, k3m1]
  instanceTypes := #[]
  staticTypes := #[.double, .double, .double, .double, .double, .long, .long, .double, .double, .boolean]
  resolved := Array.replicate 460 none
  statics := none }

def pool4 : Array CpInfo := pool [(1, .methodref 2 3), (0, .class_ 4), (0, .nameAndType 5 6), (0, u "java/lang/Object"), (0, u "<init>"), (0, u "()V"), (0, .class_ 8), (0, u "java/lang/Record")] 13

def k4c0 : Code := { maxStack := 1, maxLocals := 1, code := jdk_30_method_1_code, exceptionTable := #[], attributes := #[] }
def k4m0 : Method := { name := "<init>", desc := "()V", sig := { parameters := [], returnType := none }, accessFlags := 4, code := some k4c0 }
/-- java/lang/Record -/
def k4 : Class := { plain "java/lang/Record" (some 0) with
  accessFlags := 1057
  interfaces := #[]
  cf := some (fileOf pool4 7 #[] #[{ accessFlags := 4, nameIndex := 5, descriptorIndex := 6, attributes := #[] }] 1057 2 #[] #[])
  fields := #[]
  methods := #[k4m0]
  instanceTypes := #[]
  staticTypes := #[]
  resolved := Array.replicate 22 none
  statics := none }

def pool5 : Array CpInfo := pool [(1, .methodref 2 3), (0, .class_ 4), (0, .nameAndType 5 6), (0, u "java/lang/Record"), (0, u "<init>"), (0, u "()V"), (9, .class_ 17), (0, u "com/example/burst/burst/Decision"), (0, .long 18446744073709551615), (6, .fieldref 16 26), (0, .nameAndType 27 28), (0, u "allowed"), (0, u "Z"), (0, .fieldref 16 30), (0, .nameAndType 31 32), (0, u "limit"), (0, u "J"), (0, .fieldref 16 34), (0, .nameAndType 35 32), (0, u "remaining"), (0, .fieldref 16 37), (0, .nameAndType 38 32), (0, u "retryAfterMillis"), (0, .fieldref 16 40), (0, .nameAndType 41 32), (0, u "resetAfterMillis"), (0, .fieldref 16 43), (0, .nameAndType 44 28), (0, u "degraded"), (0, .methodref 16 46), (0, .nameAndType 5 47), (0, u "(ZJJJJZ)V"), (24, u "NO_RETRY"), (1, u "MILLIS_PER_SECOND"), (4, u "(ZJJJJ)V"), (1, u "()J"), (6, u "()Z")] 39

def k5c0 : Code := { maxStack := 6, maxLocals := 11, code := prog_3_method_1_code, exceptionTable := #[], attributes := #[] }
def k5m0 : Method := { name := "<init>", desc := "(ZJJJJZ)V", sig := { parameters := [.boolean, .long, .long, .long, .long, .boolean], returnType := none }, accessFlags := 1, code := some k5c0 }
def k5c1 : Code := { maxStack := 11, maxLocals := 10, code := prog_3_method_2_code, exceptionTable := #[], attributes := #[] }
def k5m1 : Method := { name := "<init>", desc := "(ZJJJJ)V", sig := { parameters := [.boolean, .long, .long, .long, .long], returnType := none }, accessFlags := 1, code := some k5c1 }
def k5c2 : Code := { maxStack := 1, maxLocals := 1, code := prog_3_method_10_code, exceptionTable := #[], attributes := #[] }
def k5m2 : Method := { name := "allowed", desc := "()Z", sig := { parameters := [], returnType := some .boolean }, accessFlags := 1, code := some k5c2 }
def k5c3 : Code := { maxStack := 2, maxLocals := 1, code := prog_3_method_11_code, exceptionTable := #[], attributes := #[] }
def k5m3 : Method := { name := "limit", desc := "()J", sig := { parameters := [], returnType := some .long }, accessFlags := 1, code := some k5c3 }
def k5c4 : Code := { maxStack := 2, maxLocals := 1, code := prog_3_method_12_code, exceptionTable := #[], attributes := #[] }
def k5m4 : Method := { name := "remaining", desc := "()J", sig := { parameters := [], returnType := some .long }, accessFlags := 1, code := some k5c4 }
def k5c5 : Code := { maxStack := 2, maxLocals := 1, code := prog_3_method_13_code, exceptionTable := #[], attributes := #[] }
def k5m5 : Method := { name := "retryAfterMillis", desc := "()J", sig := { parameters := [], returnType := some .long }, accessFlags := 1, code := some k5c5 }
def k5c6 : Code := { maxStack := 2, maxLocals := 1, code := prog_3_method_14_code, exceptionTable := #[], attributes := #[] }
def k5m6 : Method := { name := "resetAfterMillis", desc := "()J", sig := { parameters := [], returnType := some .long }, accessFlags := 1, code := some k5c6 }
def k5c7 : Code := { maxStack := 1, maxLocals := 1, code := prog_3_method_15_code, exceptionTable := #[], attributes := #[] }
def k5m7 : Method := { name := "degraded", desc := "()Z", sig := { parameters := [], returnType := some .boolean }, accessFlags := 1, code := some k5c7 }
/-- com/example/burst/burst/Decision -/
def k5 : Class := { plain "com/example/burst/burst/Decision" (some 4) with
  accessFlags := 49
  interfaces := #[]
  cf := some (fileOf pool5 16 #[] #[{ accessFlags := 1, nameIndex := 5, descriptorIndex := 47, attributes := #[] }, { accessFlags := 1, nameIndex := 5, descriptorIndex := 79, attributes := #[] }, { accessFlags := 1, nameIndex := 27, descriptorIndex := 88, attributes := #[] }, { accessFlags := 1, nameIndex := 31, descriptorIndex := 81, attributes := #[] }, { accessFlags := 1, nameIndex := 35, descriptorIndex := 81, attributes := #[] }, { accessFlags := 1, nameIndex := 38, descriptorIndex := 81, attributes := #[] }, { accessFlags := 1, nameIndex := 41, descriptorIndex := 81, attributes := #[] }, { accessFlags := 1, nameIndex := 44, descriptorIndex := 88, attributes := #[] }] 49 2 #[] #[{ accessFlags := 18, nameIndex := 27, descriptorIndex := 28, attributes := #[] }, { accessFlags := 18, nameIndex := 31, descriptorIndex := 32, attributes := #[] }, { accessFlags := 18, nameIndex := 35, descriptorIndex := 32, attributes := #[] }, { accessFlags := 18, nameIndex := 38, descriptorIndex := 32, attributes := #[] }, { accessFlags := 18, nameIndex := 41, descriptorIndex := 32, attributes := #[] }, { accessFlags := 18, nameIndex := 44, descriptorIndex := 28, attributes := #[] }, { accessFlags := 25, nameIndex := 72, descriptorIndex := 32, attributes := #[] }, { accessFlags := 26, nameIndex := 74, descriptorIndex := 32, attributes := #[] }])
  fields := #[{ name := "allowed", type := .boolean, accessFlags := 18, slot := 0, constantValue := 0 }, { name := "limit", type := .long, accessFlags := 18, slot := 1, constantValue := 0 }, { name := "remaining", type := .long, accessFlags := 18, slot := 2, constantValue := 0 }, { name := "retryAfterMillis", type := .long, accessFlags := 18, slot := 3, constantValue := 0 }, { name := "resetAfterMillis", type := .long, accessFlags := 18, slot := 4, constantValue := 0 }, { name := "degraded", type := .boolean, accessFlags := 18, slot := 5, constantValue := 0 }, { name := "NO_RETRY", type := .long, accessFlags := 25, slot := 0, constantValue := 0 }, { name := "MILLIS_PER_SECOND", type := .long, accessFlags := 26, slot := 1, constantValue := 0 }]
  methods := #[k5m0, k5m1, k5m2, k5m3, k5m4, k5m5, k5m6, k5m7]
  instanceTypes := #[.boolean, .long, .long, .long, .long, .boolean]
  staticTypes := #[.long, .long]
  resolved := Array.replicate 128 none
  statics := none }

def pool6 : Array CpInfo := pool [(1, u "java/lang/Cloneable"), (0, .class_ 1), (0, u "java/lang/Object"), (0, .class_ 3)] 3

/-- java/lang/Cloneable -/
def k6 : Class := { plain "java/lang/Cloneable" (some 0) with
  accessFlags := 1537
  interfaces := #[]
  cf := some (fileOf pool6 2 #[] #[] 1537 4 #[] #[])
  fields := #[]
  methods := #[]
  instanceTypes := #[]
  staticTypes := #[]
  resolved := Array.replicate 8 none
  statics := none }

def pool7 : Array CpInfo := pool [(1, u "java/io/Serializable"), (0, .class_ 1), (0, u "java/lang/Object"), (0, .class_ 3)] 3

/-- java/io/Serializable -/
def k7 : Class := { plain "java/io/Serializable" (some 0) with
  accessFlags := 1537
  interfaces := #[]
  cf := some (fileOf pool7 2 #[] #[] 1537 4 #[] #[])
  fields := #[]
  methods := #[]
  instanceTypes := #[]
  staticTypes := #[]
  resolved := Array.replicate 8 none
  statics := none }

/-- the primitive byte -/
def k8 : Class := { plain "byte" none with kind := .primitive 'B', accessFlags := 0x411 }
/-- [B -/
def k9 : Class := { plain "[B" (some 0) with kind := .array 8 .byte, interfaces := #[6, 7], accessFlags := 1041 }

/-- the primitive int -/
def k10 : Class := { plain "int" none with kind := .primitive 'I', accessFlags := 0x411 }
/-- [I -/
def k11 : Class := { plain "[I" (some 0) with kind := .array 10 .int, interfaces := #[6, 7], accessFlags := 1041 }

def heap : Heap := #[]
def classes : Array Class := #[k0, k1, k2, k3, k4, k5, k6, k7, k8, k9, k10, k11]
def interned : List (Array UInt16 × Addr) := []
def slotsUsed : Nat := 0
def theMethod : MethodId := ⟨1, 2⟩
def args0 : Array Value := #[.int 5, .long 6, .long 7, .long 8, .long 9]
def aboutOver (below : List Frame) : State where
  vm := { classes := classes, interned := interned.toArray }
  heap := heap
  slotsUsed := slotsUsed
  threads := #[{ frames := .invoking theMethod args0 :: below }]
def below0 : List Frame := [.native { method := ⟨0, 0⟩, args := #[] }]
def about1 : State := aboutOver below0
def p0 : Program := .bare "" "" ""
def e0 : Env := launch0.env 0 0 0
theorem w_frames : about1.frames = Frame.invoking theMethod args0 :: below0 := rfl
set_option maxRecDepth 65536 in
theorem w_args : argsFit about1.vm theMethod args0 = true := by decide +kernel
set_option maxRecDepth 65536 in
theorem w_heap : heapFits about1 = true := by decide +kernel
set_option maxRecDepth 65536 in
theorem w_runnable : about1.curStatus? = some .runnable := by decide +kernel
set_option maxRecDepth 65536 in
theorem w_alone : about1.alone = true := by decide +kernel
set_option maxRecDepth 65536 in
theorem w_named : about1.methodNamed? x = some theMethod := by decide +kernel
set_option maxRecDepth 65536 in
theorem w_hears : about1.hears theMethod below0 = true := by decide +kernel
set_option maxRecDepth 65536 in
theorem w_ripe : about1.ripe theMethod args0 below0 = true := by decide +kernel
theorem w_running : about1.status = .running := rfl
set_option maxRecDepth 65536 in
theorem w_room : about1.hasRoom e0.platform room_1 = true :=
  launch0.hasRoom_least _ room_1 (by decide +kernel) (by decide +kernel) (by decide +kernel) (by decide +kernel) (by decide +kernel) (by decide +kernel)
theorem allAtoms_all (ts : List Jvm.Cond) (a : Array Jvm.Value) (st : Jvm.State) : (allAtoms ts).before a st = ts.all (fun c => c.before a st) := by
  induction ts with
  | nil => rfl
  | cons c t ih =>
    show (Jvm.Cond.and c (allAtoms t)).before a st = _
    rw [Jvm.Cond.before_and, ih, List.all_cons]
def words1 : List Jvm.Cond := Jvm.Cond.code x code maxLocals ret :: tables_1
/-- a 'code' word, met by the world's own term for the bytes: nothing is compared byte by byte -/
theorem code_word {y : MethodName} {bytes : ByteArray} {mx : Nat} {rt : Option FieldType} {a : Array Value} {s : State} {m : MethodId} {meth : Method} {c : Code} (h1 : s.methodNamed? y = some m) (h2 : s.vm.method? m = some meth) (h3 : meth.code = some c) (h4 : c.code = bytes)
    (h5 : (c.maxLocals == mx && c.exceptionTable.isEmpty && decide (c.maxStack ≤ mostOperands) && decide (meth.sig.returnType = rt) && !meth.locks && decide (parseMethodDescriptor y.desc = some meth.sig)) = true) : (Jvm.Cond.code y bytes mx rt).before a s = true := by
  simp only [Bool.and_eq_true, beq_iff_eq, Bool.not_eq_true', decide_eq_true_eq] at h5
  obtain ⟨⟨⟨⟨⟨g1, g2⟩, g3⟩, g4⟩, g5⟩, g6⟩ := h5
  simp [Cond.before, Cond.holds, Cond.value, h1, h2, h3, h4, g1, g2, g3, g4, g5, g6]
def isCode : Jvm.Cond → Bool
  | .code _ _ _ _ => true
  | _ => false
theorem all_split {L : List Jvm.Cond} {P : Jvm.Cond → Bool} (h1 : L.all (fun c => isCode c || P c) = true) (h2 : ∀ c ∈ L.filter isCode, P c = true) : L.all P = true := by
  refine List.all_eq_true.mpr fun c hc => ?_
  have h := List.all_eq_true.mp h1 c hc
  rcases Bool.eq_false_or_eq_true (isCode c) with hi | hi
  · exact h2 c (List.mem_filter.mpr ⟨hc, hi⟩)
  · simpa [hi] using h
set_option maxRecDepth 65536 in
theorem w_c0 : (Jvm.Cond.code x code maxLocals ret).before args0 about1 = true := code_word (m := ⟨1, 2⟩) (meth := k1m2) (c := k1c2) (by decide +kernel) rfl rfl rfl (by decide +kernel)
set_option maxRecDepth 65536 in
theorem w_c1 : (Jvm.Cond.code ({ cls := "com/example/burst/burst/MemoryRuleDecisionPinLaw", name := "ceilMillis", desc := "(J)J" } : Jvm.MethodName) method_2_code (4 : Nat) (Option.some Jvm.ClassFile.FieldType.long)).before args0 about1 = true := code_word (m := ⟨1, 1⟩) (meth := k1m1) (c := k1c1) (by decide +kernel) rfl rfl rfl (by decide +kernel)
set_option maxRecDepth 65536 in
theorem w_c2 : (Jvm.Cond.code ({ cls := "com/example/burst/burst/MemoryRule", name := "decision", desc := "(ZJJJJ)Lcom/example/burst/burst/Decision;" } : Jvm.MethodName) prog_8_method_2_code (11 : Nat) (Option.some (Jvm.ClassFile.FieldType.object "com/example/burst/burst/Decision"))).before args0 about1 = true := code_word (m := ⟨2, 0⟩) (meth := k2m0) (c := k2c0) (by decide +kernel) rfl rfl rfl (by decide +kernel)
set_option maxRecDepth 65536 in
theorem w_c3 : (Jvm.Cond.code ({ cls := "com/example/burst/burst/MemoryRule", name := "millisRoundedUp", desc := "(J)J" } : Jvm.MethodName) prog_8_method_3_code (2 : Nat) (Option.some Jvm.ClassFile.FieldType.long)).before args0 about1 = true := code_word (m := ⟨2, 1⟩) (meth := k2m1) (c := k2c1) (by decide +kernel) rfl rfl rfl (by decide +kernel)
set_option maxRecDepth 65536 in
theorem w_c4 : (Jvm.Cond.code ({ cls := "java/lang/Math", name := "floorDiv", desc := "(JJ)J" } : Jvm.MethodName) jdk_29_method_49_code (6 : Nat) (Option.some Jvm.ClassFile.FieldType.long)).before args0 about1 = true := code_word (m := ⟨3, 1⟩) (meth := k3m1) (c := k3c1) (by decide +kernel) rfl rfl rfl (by decide +kernel)
set_option maxRecDepth 65536 in
theorem w_c5 : (Jvm.Cond.code ({ cls := "com/example/burst/burst/Decision", name := "<init>", desc := "(ZJJJJ)V" } : Jvm.MethodName) prog_3_method_2_code (10 : Nat) (Option.none : Option Jvm.ClassFile.FieldType)).before args0 about1 = true := code_word (m := ⟨5, 1⟩) (meth := k5m1) (c := k5c1) (by decide +kernel) rfl rfl rfl (by decide +kernel)
set_option maxRecDepth 65536 in
theorem w_c6 : (Jvm.Cond.code ({ cls := "com/example/burst/burst/Decision", name := "<init>", desc := "(ZJJJJZ)V" } : Jvm.MethodName) prog_3_method_1_code (11 : Nat) (Option.none : Option Jvm.ClassFile.FieldType)).before args0 about1 = true := code_word (m := ⟨5, 0⟩) (meth := k5m0) (c := k5c0) (by decide +kernel) rfl rfl rfl (by decide +kernel)
set_option maxRecDepth 65536 in
theorem w_c7 : (Jvm.Cond.code ({ cls := "java/lang/Record", name := "<init>", desc := "()V" } : Jvm.MethodName) jdk_30_method_1_code (1 : Nat) (Option.none : Option Jvm.ClassFile.FieldType)).before args0 about1 = true := code_word (m := ⟨4, 0⟩) (meth := k4m0) (c := k4c0) (by decide +kernel) rfl rfl rfl (by decide +kernel)
set_option maxRecDepth 65536 in
theorem w_c8 : (Jvm.Cond.code ({ cls := "java/lang/Object", name := "<init>", desc := "()V" } : Jvm.MethodName) object_method_1_code (1 : Nat) (Option.none : Option Jvm.ClassFile.FieldType)).before args0 about1 = true := code_word (m := ⟨0, 0⟩) (meth := k0m0) (c := k0c0) (by decide +kernel) rfl rfl rfl (by decide +kernel)
set_option maxRecDepth 65536 in
theorem w_c9 : (Jvm.Cond.code ({ cls := "com/example/burst/burst/Decision", name := "allowed", desc := "()Z" } : Jvm.MethodName) prog_3_method_10_code (1 : Nat) (Option.some Jvm.ClassFile.FieldType.boolean)).before args0 about1 = true := code_word (m := ⟨5, 2⟩) (meth := k5m2) (c := k5c2) (by decide +kernel) rfl rfl rfl (by decide +kernel)
set_option maxRecDepth 65536 in
theorem w_c10 : (Jvm.Cond.code ({ cls := "com/example/burst/burst/Decision", name := "limit", desc := "()J" } : Jvm.MethodName) prog_3_method_11_code (1 : Nat) (Option.some Jvm.ClassFile.FieldType.long)).before args0 about1 = true := code_word (m := ⟨5, 3⟩) (meth := k5m3) (c := k5c3) (by decide +kernel) rfl rfl rfl (by decide +kernel)
set_option maxRecDepth 65536 in
theorem w_c11 : (Jvm.Cond.code ({ cls := "com/example/burst/burst/Decision", name := "remaining", desc := "()J" } : Jvm.MethodName) prog_3_method_12_code (1 : Nat) (Option.some Jvm.ClassFile.FieldType.long)).before args0 about1 = true := code_word (m := ⟨5, 4⟩) (meth := k5m4) (c := k5c4) (by decide +kernel) rfl rfl rfl (by decide +kernel)
set_option maxRecDepth 65536 in
theorem w_c12 : (Jvm.Cond.code ({ cls := "com/example/burst/burst/Decision", name := "retryAfterMillis", desc := "()J" } : Jvm.MethodName) prog_3_method_13_code (1 : Nat) (Option.some Jvm.ClassFile.FieldType.long)).before args0 about1 = true := code_word (m := ⟨5, 5⟩) (meth := k5m5) (c := k5c5) (by decide +kernel) rfl rfl rfl (by decide +kernel)
set_option maxRecDepth 65536 in
theorem w_c13 : (Jvm.Cond.code ({ cls := "com/example/burst/burst/Decision", name := "resetAfterMillis", desc := "()J" } : Jvm.MethodName) prog_3_method_14_code (1 : Nat) (Option.some Jvm.ClassFile.FieldType.long)).before args0 about1 = true := code_word (m := ⟨5, 6⟩) (meth := k5m6) (c := k5c6) (by decide +kernel) rfl rfl rfl (by decide +kernel)
set_option maxRecDepth 65536 in
theorem w_c14 : (Jvm.Cond.code ({ cls := "com/example/burst/burst/Decision", name := "degraded", desc := "()Z" } : Jvm.MethodName) prog_3_method_15_code (1 : Nat) (Option.some Jvm.ClassFile.FieldType.boolean)).before args0 about1 = true := code_word (m := ⟨5, 7⟩) (meth := k5m7) (c := k5c7) (by decide +kernel) rfl rfl rfl (by decide +kernel)
def codes1 : List Jvm.Cond := [Jvm.Cond.code x code maxLocals ret, Jvm.Cond.code ({ cls := "com/example/burst/burst/MemoryRuleDecisionPinLaw", name := "ceilMillis", desc := "(J)J" } : Jvm.MethodName) method_2_code (4 : Nat) (Option.some Jvm.ClassFile.FieldType.long), Jvm.Cond.code ({ cls := "com/example/burst/burst/MemoryRule", name := "decision", desc := "(ZJJJJ)Lcom/example/burst/burst/Decision;" } : Jvm.MethodName) prog_8_method_2_code (11 : Nat) (Option.some (Jvm.ClassFile.FieldType.object "com/example/burst/burst/Decision")), Jvm.Cond.code ({ cls := "com/example/burst/burst/MemoryRule", name := "millisRoundedUp", desc := "(J)J" } : Jvm.MethodName) prog_8_method_3_code (2 : Nat) (Option.some Jvm.ClassFile.FieldType.long), Jvm.Cond.code ({ cls := "java/lang/Math", name := "floorDiv", desc := "(JJ)J" } : Jvm.MethodName) jdk_29_method_49_code (6 : Nat) (Option.some Jvm.ClassFile.FieldType.long), Jvm.Cond.code ({ cls := "com/example/burst/burst/Decision", name := "<init>", desc := "(ZJJJJ)V" } : Jvm.MethodName) prog_3_method_2_code (10 : Nat) (Option.none : Option Jvm.ClassFile.FieldType), Jvm.Cond.code ({ cls := "com/example/burst/burst/Decision", name := "<init>", desc := "(ZJJJJZ)V" } : Jvm.MethodName) prog_3_method_1_code (11 : Nat) (Option.none : Option Jvm.ClassFile.FieldType), Jvm.Cond.code ({ cls := "java/lang/Record", name := "<init>", desc := "()V" } : Jvm.MethodName) jdk_30_method_1_code (1 : Nat) (Option.none : Option Jvm.ClassFile.FieldType), Jvm.Cond.code ({ cls := "java/lang/Object", name := "<init>", desc := "()V" } : Jvm.MethodName) object_method_1_code (1 : Nat) (Option.none : Option Jvm.ClassFile.FieldType), Jvm.Cond.code ({ cls := "com/example/burst/burst/Decision", name := "allowed", desc := "()Z" } : Jvm.MethodName) prog_3_method_10_code (1 : Nat) (Option.some Jvm.ClassFile.FieldType.boolean), Jvm.Cond.code ({ cls := "com/example/burst/burst/Decision", name := "limit", desc := "()J" } : Jvm.MethodName) prog_3_method_11_code (1 : Nat) (Option.some Jvm.ClassFile.FieldType.long), Jvm.Cond.code ({ cls := "com/example/burst/burst/Decision", name := "remaining", desc := "()J" } : Jvm.MethodName) prog_3_method_12_code (1 : Nat) (Option.some Jvm.ClassFile.FieldType.long), Jvm.Cond.code ({ cls := "com/example/burst/burst/Decision", name := "retryAfterMillis", desc := "()J" } : Jvm.MethodName) prog_3_method_13_code (1 : Nat) (Option.some Jvm.ClassFile.FieldType.long), Jvm.Cond.code ({ cls := "com/example/burst/burst/Decision", name := "resetAfterMillis", desc := "()J" } : Jvm.MethodName) prog_3_method_14_code (1 : Nat) (Option.some Jvm.ClassFile.FieldType.long), Jvm.Cond.code ({ cls := "com/example/burst/burst/Decision", name := "degraded", desc := "()Z" } : Jvm.MethodName) prog_3_method_15_code (1 : Nat) (Option.some Jvm.ClassFile.FieldType.boolean)]
set_option maxRecDepth 65536 in
theorem codes_eq : words1.filter isCode = codes1 := rfl
theorem w_codes : ∀ c ∈ words1.filter isCode, c.before args0 about1 = true := by
  rw [codes_eq]
  intro c hc
  simp only [codes1, List.mem_cons, List.not_mem_nil, or_false] at hc
  rcases hc with rfl | rfl | rfl | rfl | rfl | rfl | rfl | rfl | rfl | rfl | rfl | rfl | rfl | rfl | rfl
  · exact w_c0
  · exact w_c1
  · exact w_c2
  · exact w_c3
  · exact w_c4
  · exact w_c5
  · exact w_c6
  · exact w_c7
  · exact w_c8
  · exact w_c9
  · exact w_c10
  · exact w_c11
  · exact w_c12
  · exact w_c13
  · exact w_c14
set_option maxRecDepth 65536 in
theorem w_t1 : (words1.take 24).all (fun c => isCode c || c.before args0 about1) = true := by decide +kernel
set_option maxRecDepth 65536 in
theorem w_t2 : ((words1.drop 24).take 24).all (fun c => isCode c || c.before args0 about1) = true := by decide +kernel
set_option maxRecDepth 65536 in
theorem w_t3 : (((words1.drop 24).drop 24).take 24).all (fun c => isCode c || c.before args0 about1) = true := by decide +kernel
set_option maxRecDepth 65536 in
theorem w_t4 : (((words1.drop 24).drop 24).drop 24).all (fun c => isCode c || c.before args0 about1) = true := by decide +kernel
theorem w_tables : (allAtoms (Jvm.Cond.code x code maxLocals ret :: tables_1)).before args0 about1 = true := by
  rw [allAtoms_all]
  show words1.all (fun c => c.before args0 about1) = true
  refine all_split ?_ w_codes
  rw [← List.take_append_drop 24 words1, List.all_append, w_t1, ← List.take_append_drop 24 (words1.drop 24), List.all_append, w_t2, ← List.take_append_drop 24 ((words1.drop 24).drop 24), List.all_append, w_t3, w_t4]
  rfl
set_option maxRecDepth 65536 in
theorem w_case : (Jvm.Cond.and given_1 narrow_1).before args0 about1 = true := by decide +kernel
theorem w_applies : (headSpec (Jvm.Cond.code x code maxLocals ret :: tables_1) room_1).applies x e0.platform about1 = true :=
  (Spec.applies_iff w_frames).mpr ⟨w_running, w_runnable, w_alone, w_named, w_hears, w_ripe, w_room, w_tables⟩
theorem atStart : AtStart classFile x code maxLocals ret World_1 tables_1 room_1 Calls_1 rest_1 Pre_1 launch0 p0 e0 about1 theMethod args0 below0 :=
  ⟨lists_1, trivial, launch0.admits_env _ _ _, launch0.least_env, fairChoices_fair.cas, fairChoices_fair.clock, w_frames, w_args, w_heap, w_applies, trivial, trivial, w_case⟩
end start1
theorem witness_1 : WitnessClaimed_1 := ⟨start1.p0, start1.e0, start1.about1, start1.theMethod, start1.args0, start1.below0, start1.atStart⟩
end Jvm.Pilot.@@N@@
