import JvmDerived
import JvmDerived.Pilot.@@N@@Statement
import JvmDerived.Pilot.@@N@@Code
set_option linter.unusedVariables false
set_option linter.unusedSimpArgs false
namespace Jvm.RoadKit
open Sem ClassFile Op Lib Jvm.Stand Jvm.Free Jvm.LawKit
section New
variable {p : Program} {l : Launch} {e : Env} {R : Room} {s : State} {m : MethodId} {args : Array Value} {below : List Frame} {meth : Method} {c : Code} {T : State} {locs : List Loc} {cells slots : Nat}
theorem retI (X : Stand p l e R s m args below meth c T locs cells slots) (hx : p.tables.exec = Jvm.exec) {pc : Nat} {Ls : Array Slot} {z : Int32} {rest : List Value} (hret : meth.sig.returnType = some .int) (hd : decode c.code pc = .ok (.ireturn, 1)) {fs : List Frame}
    (hl : ∀ (f : JFrame) (acts : List Action), f.method = m → f.locked = none → f.entered = [] → (doReturn e (T.setTop f) acts (some (.int z))).1 = T.setFrames fs) : Steps p.tables e below (T.setTop (mkF m pc Ls (.int z :: rest))) (T.setFrames fs) := by
  have hm' : T.vm.method? m = some meth := X.method'
  have hn : narrow .int (.int z) = .int z := rfl
  show Steps p.tables e below (T.setTop { method := m, pc := pc, locals := Ls, stack := _ :: rest, locked := none }) _
  jvm_step X.here [X.here.top, hx, hd, hm', hret, hn]
  first | (intro acts; rw [hl _ acts rfl rfl rfl]) | rw [hl _ _ rfl rfl rfl]
  exact Steps.refl _
end New
end Jvm.RoadKit
namespace Jvm.Pilot.@@N@@
open Jvm Jvm.ClassFile Sem Op Lib Jvm.Free Jvm.Stand Jvm.LawKit Jvm.RoadKit Bundle Jvm.Pilot.@@N@@.Jvm.D
theorem d1_0 : decode jdk_29_method_66_code 0 = .ok (.lload_n 0, 1) := by decide +kernel
theorem d1_1 : decode jdk_29_method_66_code 1 = .ok (.lload_n 2, 1) := by decide +kernel
theorem d1_2 : decode jdk_29_method_66_code 2 = .ok (.lcmp, 1) := by decide +kernel
theorem d1_3 : decode jdk_29_method_66_code 3 = .ok (.ifCond .lt 7, 3) := by decide +kernel
theorem d1_6 : decode jdk_29_method_66_code 6 = .ok (.lload_n 0, 1) := by decide +kernel
theorem d1_7 : decode jdk_29_method_66_code 7 = .ok (.goto 4, 3) := by decide +kernel
theorem d1_10 : decode jdk_29_method_66_code 10 = .ok (.lload_n 2, 1) := by decide +kernel
theorem d1_11 : decode jdk_29_method_66_code 11 = .ok (.lreturn, 1) := by decide +kernel
theorem d2_0 : decode jdk_29_method_70_code 0 = .ok (.lload_n 0, 1) := by decide +kernel
theorem d2_1 : decode jdk_29_method_70_code 1 = .ok (.lload_n 2, 1) := by decide +kernel
theorem d2_2 : decode jdk_29_method_70_code 2 = .ok (.lcmp, 1) := by decide +kernel
theorem d2_3 : decode jdk_29_method_70_code 3 = .ok (.ifCond .gt 7, 3) := by decide +kernel
theorem d2_6 : decode jdk_29_method_70_code 6 = .ok (.lload_n 0, 1) := by decide +kernel
theorem d2_7 : decode jdk_29_method_70_code 7 = .ok (.goto 4, 3) := by decide +kernel
theorem d2_10 : decode jdk_29_method_70_code 10 = .ok (.lload_n 2, 1) := by decide +kernel
theorem d2_11 : decode jdk_29_method_70_code 11 = .ok (.lreturn, 1) := by decide +kernel
theorem d3_0 : decode prog_3_method_1_code 0 = .ok (.aload_n 0, 1) := by decide +kernel
theorem d3_1 : decode prog_3_method_1_code 1 = .ok (.invokespecial 1, 3) := by decide +kernel
theorem d3_4 : decode prog_3_method_1_code 4 = .ok (.lload 4, 2) := by decide +kernel
theorem d3_6 : decode prog_3_method_1_code 6 = .ok (.lconst 0, 1) := by decide +kernel
theorem d3_7 : decode prog_3_method_1_code 7 = .ok (.lcmp, 1) := by decide +kernel
theorem d3_8 : decode prog_3_method_1_code 8 = .ok (.ifCond .lt 10, 3) := by decide +kernel
theorem d3_11 : decode prog_3_method_1_code 11 = .ok (.lload 4, 2) := by decide +kernel
theorem d3_13 : decode prog_3_method_1_code 13 = .ok (.lload_n 2, 1) := by decide +kernel
theorem d3_14 : decode prog_3_method_1_code 14 = .ok (.lcmp, 1) := by decide +kernel
theorem d3_15 : decode prog_3_method_1_code 15 = .ok (.ifCond .le 19, 3) := by decide +kernel
theorem d3_34 : decode prog_3_method_1_code 34 = .ok (.lload 6, 2) := by decide +kernel
theorem d3_36 : decode prog_3_method_1_code 36 = .ok (.ldc2_w 18, 3) := by decide +kernel
theorem d3_39 : decode prog_3_method_1_code 39 = .ok (.lcmp, 1) := by decide +kernel
theorem d3_40 : decode prog_3_method_1_code 40 = .ok (.ifCond .ge 18, 3) := by decide +kernel
theorem d3_58 : decode prog_3_method_1_code 58 = .ok (.iload_n 1, 1) := by decide +kernel
theorem d3_59 : decode prog_3_method_1_code 59 = .ok (.ifCond .eq 27, 3) := by decide +kernel
theorem d3_62 : decode prog_3_method_1_code 62 = .ok (.lload 6, 2) := by decide +kernel
theorem d3_64 : decode prog_3_method_1_code 64 = .ok (.ldc2_w 18, 3) := by decide +kernel
theorem d3_67 : decode prog_3_method_1_code 67 = .ok (.lcmp, 1) := by decide +kernel
theorem d3_68 : decode prog_3_method_1_code 68 = .ok (.ifCond .eq 18, 3) := by decide +kernel
theorem d3_86 : decode prog_3_method_1_code 86 = .ok (.lload 8, 2) := by decide +kernel
theorem d3_88 : decode prog_3_method_1_code 88 = .ok (.lconst 0, 1) := by decide +kernel
theorem d3_89 : decode prog_3_method_1_code 89 = .ok (.lcmp, 1) := by decide +kernel
theorem d3_90 : decode prog_3_method_1_code 90 = .ok (.ifCond .ge 18, 3) := by decide +kernel
theorem d3_108 : decode prog_3_method_1_code 108 = .ok (.aload_n 0, 1) := by decide +kernel
theorem d3_109 : decode prog_3_method_1_code 109 = .ok (.iload_n 1, 1) := by decide +kernel
theorem d3_110 : decode prog_3_method_1_code 110 = .ok (.putfield 25, 3) := by decide +kernel
theorem d3_113 : decode prog_3_method_1_code 113 = .ok (.aload_n 0, 1) := by decide +kernel
theorem d3_114 : decode prog_3_method_1_code 114 = .ok (.lload_n 2, 1) := by decide +kernel
theorem d3_115 : decode prog_3_method_1_code 115 = .ok (.putfield 29, 3) := by decide +kernel
theorem d3_118 : decode prog_3_method_1_code 118 = .ok (.aload_n 0, 1) := by decide +kernel
theorem d3_119 : decode prog_3_method_1_code 119 = .ok (.lload 4, 2) := by decide +kernel
theorem d3_121 : decode prog_3_method_1_code 121 = .ok (.putfield 33, 3) := by decide +kernel
theorem d3_124 : decode prog_3_method_1_code 124 = .ok (.aload_n 0, 1) := by decide +kernel
theorem d3_125 : decode prog_3_method_1_code 125 = .ok (.lload 6, 2) := by decide +kernel
theorem d3_127 : decode prog_3_method_1_code 127 = .ok (.putfield 36, 3) := by decide +kernel
theorem d3_130 : decode prog_3_method_1_code 130 = .ok (.aload_n 0, 1) := by decide +kernel
theorem d3_131 : decode prog_3_method_1_code 131 = .ok (.lload 8, 2) := by decide +kernel
theorem d3_133 : decode prog_3_method_1_code 133 = .ok (.putfield 39, 3) := by decide +kernel
theorem d3_136 : decode prog_3_method_1_code 136 = .ok (.aload_n 0, 1) := by decide +kernel
theorem d3_137 : decode prog_3_method_1_code 137 = .ok (.iload 10, 2) := by decide +kernel
theorem d3_139 : decode prog_3_method_1_code 139 = .ok (.putfield 42, 3) := by decide +kernel
theorem d3_142 : decode prog_3_method_1_code 142 = .ok (.return_, 1) := by decide +kernel
theorem d4_0 : decode jdk_30_method_1_code 0 = .ok (.aload_n 0, 1) := by decide +kernel
theorem d4_1 : decode jdk_30_method_1_code 1 = .ok (.invokespecial 1, 3) := by decide +kernel
theorem d4_4 : decode jdk_30_method_1_code 4 = .ok (.return_, 1) := by decide +kernel
theorem d6_0 : decode prog_3_method_5_code 0 = .ok (.new 16, 3) := by decide +kernel
theorem d6_3 : decode prog_3_method_5_code 3 = .ok (.dup, 1) := by decide +kernel
theorem d6_4 : decode prog_3_method_5_code 4 = .ok (.aload_n 0, 1) := by decide +kernel
theorem d6_5 : decode prog_3_method_5_code 5 = .ok (.getfield 25, 3) := by decide +kernel
theorem d6_8 : decode prog_3_method_5_code 8 = .ok (.aload_n 0, 1) := by decide +kernel
theorem d6_9 : decode prog_3_method_5_code 9 = .ok (.getfield 29, 3) := by decide +kernel
theorem d6_12 : decode prog_3_method_5_code 12 = .ok (.aload_n 0, 1) := by decide +kernel
theorem d6_13 : decode prog_3_method_5_code 13 = .ok (.getfield 33, 3) := by decide +kernel
theorem d6_16 : decode prog_3_method_5_code 16 = .ok (.aload_n 0, 1) := by decide +kernel
theorem d6_17 : decode prog_3_method_5_code 17 = .ok (.getfield 36, 3) := by decide +kernel
theorem d6_20 : decode prog_3_method_5_code 20 = .ok (.aload_n 0, 1) := by decide +kernel
theorem d6_21 : decode prog_3_method_5_code 21 = .ok (.getfield 39, 3) := by decide +kernel
theorem d6_24 : decode prog_3_method_5_code 24 = .ok (.iconst 1, 1) := by decide +kernel
theorem d6_25 : decode prog_3_method_5_code 25 = .ok (.invokespecial 45, 3) := by decide +kernel
theorem d6_28 : decode prog_3_method_5_code 28 = .ok (.areturn, 1) := by decide +kernel
theorem d7_0 : decode prog_3_method_10_code 0 = .ok (.aload_n 0, 1) := by decide +kernel
theorem d7_1 : decode prog_3_method_10_code 1 = .ok (.getfield 25, 3) := by decide +kernel
theorem d7_4 : decode prog_3_method_10_code 4 = .ok (.ireturn, 1) := by decide +kernel
theorem d8_0 : decode prog_3_method_11_code 0 = .ok (.aload_n 0, 1) := by decide +kernel
theorem d8_1 : decode prog_3_method_11_code 1 = .ok (.getfield 29, 3) := by decide +kernel
theorem d8_4 : decode prog_3_method_11_code 4 = .ok (.lreturn, 1) := by decide +kernel
theorem d9_0 : decode prog_3_method_12_code 0 = .ok (.aload_n 0, 1) := by decide +kernel
theorem d9_1 : decode prog_3_method_12_code 1 = .ok (.getfield 33, 3) := by decide +kernel
theorem d9_4 : decode prog_3_method_12_code 4 = .ok (.lreturn, 1) := by decide +kernel
theorem d10_0 : decode prog_3_method_13_code 0 = .ok (.aload_n 0, 1) := by decide +kernel
theorem d10_1 : decode prog_3_method_13_code 1 = .ok (.getfield 36, 3) := by decide +kernel
theorem d10_4 : decode prog_3_method_13_code 4 = .ok (.lreturn, 1) := by decide +kernel
theorem d11_0 : decode prog_3_method_14_code 0 = .ok (.aload_n 0, 1) := by decide +kernel
theorem d11_1 : decode prog_3_method_14_code 1 = .ok (.getfield 39, 3) := by decide +kernel
theorem d11_4 : decode prog_3_method_14_code 4 = .ok (.lreturn, 1) := by decide +kernel
theorem d12_0 : decode prog_3_method_15_code 0 = .ok (.aload_n 0, 1) := by decide +kernel
theorem d12_1 : decode prog_3_method_15_code 1 = .ok (.getfield 42, 3) := by decide +kernel
theorem d12_4 : decode prog_3_method_15_code 4 = .ok (.ireturn, 1) := by decide +kernel
theorem pn_0 : plainName "java/lang/Record" = true := by first | (simp [plainName, overriddenIn]; done) | decide +kernel
theorem pn_1 : plainName "com/example/burst/burst/Decision" = true := by first | (simp [plainName, overriddenIn]; done) | decide +kernel
theorem pn_2 : plainName "com/example/burst/burst/DecisionAsDegradedPinLaw" = true := by first | (simp [plainName, overriddenIn]; done) | decide +kernel
theorem pd_0 : parseMethodDescriptor "(JJ)J" = some ⟨[.long, .long], some .long⟩ := by decide +kernel
theorem pd_1 : parseMethodDescriptor "()V" = some ⟨[], none⟩ := by decide +kernel
theorem pd_2 : parseMethodDescriptor "(ZJJJJZ)V" = some ⟨[.boolean, .long, .long, .long, .long, .boolean], none⟩ := by decide +kernel
theorem pd_3 : parseMethodDescriptor "()Lcom/example/burst/burst/Decision;" = some ⟨[], some (.object "com/example/burst/burst/Decision")⟩ := by decide +kernel
theorem pd_4 : parseMethodDescriptor "()Z" = some ⟨[], some .boolean⟩ := by decide +kernel
theorem pd_5 : parseMethodDescriptor "()J" = some ⟨[], some .long⟩ := by decide +kernel
theorem own_nar1 {x : Int32} (h : x = 1) : nar .boolean x = 1 := by subst h; rfl
theorem own_n0 : nar .boolean (0 : Int32) = 0 := rfl
theorem own_n1 : nar .boolean (1 : Int32) = 1 := rfl
theorem own_m63 (j : Int64) : 0 ≤ (j &&& (9223372036854775807 : Int64)).toInt := by
  rw [c_maskL j 9223372036854775807 63 (by decide) (by decide)]
  exact Int.emod_nonneg _ (by decide)
theorem own_m63n (j : Int64) : ¬ (j &&& (9223372036854775807 : Int64)) < (0 : Int64) := by
  rw [Int64.lt_iff_toInt_lt]
  have := own_m63 j
  show ¬ _ < (0 : Int)
  omega
def own_j1_3_0 (j1 : Int64) (j2 : Int64) : Int64 := (if j1 < j2 then j2 else j1)
def Q1 (Z : State) (j1 : Int64) (j2 : Int64) (h0 : Heap) (n0 : Nat) (v : Option Value) (h : Heap) (L : List Loc) : Prop := v = some (.long (own_j1_3_0 j1 j2)) ∧ Fr n0 L ∧ h = h0
theorem ef_1 (m : MethodId) (x0 : Int64) (x1 : Int64) : entryFrame m #[(.long x0), (.long x1)] 4 = mkF m 0 #[.val (.long x0), .second, .val (.long x1), .second] [] := by first | (simp [entryFrame, mkF, argsToLocals, Value.category]; done) | rfl
set_option maxRecDepth 65536 in
set_option maxHeartbeats 40000000 in
theorem rm1 (l : Launch) (Z : State) (a0 : Array Value) (hw : ∀ d ∈ tables_1, d.before a0 Z = true) (ws : List Jvm.Cond) (j1 : Int64) (j2 : Int64) (h0 : Heap) (n0 : Nat) (Z0 : n0 ≤ h0.size) :
    MetFree l (⟨"java/lang/Math", "max", "(JJ)J"⟩ : MethodName) (head1 (Jvm.Cond.code (⟨"java/lang/Math", "max", "(JJ)J"⟩ : MethodName) jdk_29_method_66_code 4 (some .long) :: ws) ({ frames := 0, cells := 0, slots := 0, locals := 0 } : Room)) (fun a U => a = #[(.long j1), (.long j2)] ∧ Z.Warmed39 U.vm ∧ U.heap = h0) (fun _ _ _ _ _ => True) (fun _ U o U' => ∃ v L, o = .returned v ∧ Q1 Z j1 j2 h0 n0 v U'.heap L ∧ FrameEnd U o U' L ({ frames := 0, cells := 0, slots := 0, locals := 0 } : Room).cells ({ frames := 0, cells := 0, slots := 0, locals := 0 } : Room).slots) := by
  refine MetFree.of_bodySF (Jvm.Free.JP.mathPlain rfl (by decide +kernel)) hisR ?_
  intro p e s m args below meth c s₁ Bd hml0 hP hK
  obtain ⟨rfl, hZ, hh⟩ := hP
  have hx := Bd.exec
  have hby := Bd.bytes
  have hml : c.maxLocals = 4 := hml0
  have hown : s.vm.findClass "java/lang/Math" = some m.cls := findClass_of_methodNamed Bd.named
  have hnm := (name_of_methodNamed Bd.named Bd.method).1
  have X0 : Stand p l e ({ frames := 0, cells := 0, slots := 0, locals := 0 } : Room) s m #[(.long j1), (.long j2)] below meth c s₁ [] 0 0 := Stand.of_body Bd
  have e0 : s₁.heap = h0 := by rw [← hh, Bd.state]; rfl
  have N0 := Fr.nil n0
  have pre0 : ∀ t, Steps p.tables e below (s₁.setTop (mkF m 0 #[.val (.long j1), .second, .val (.long j2), .second] [])) t → Steps p.tables e below (s₁.setTop (entryFrame m #[(.long j1), (.long j2)] 4)) t := fun t k => castTop (ef_1 m j1 j2) k
  have pre1 : ∀ t, Steps p.tables e below (s₁.setTop (mkF m 3 #[.val (.long j1), .second, .val (.long j2), .second] [(.int (lcmpW j1 j2))])) t → Steps p.tables e below (s₁.setTop (entryFrame m #[(.long j1), (.long j2)] 4)) t := by
    intro t k
    refine pre0 _ ?_
    show Steps p.tables e below (s₁.setTop (mkF m 0 #[.val (.long j1), .second, .val (.long j2), .second] [])) _
    refine XS.lloadN X0.here hx rfl (hb hby d1_0) rfl ?_
    show Steps p.tables e below (s₁.setTop (mkF m 1 #[.val (.long j1), .second, .val (.long j2), .second] [(.long j1)])) _
    refine XS.lloadN X0.here hx rfl (hb hby d1_1) rfl ?_
    show Steps p.tables e below (s₁.setTop (mkF m 2 #[.val (.long j1), .second, .val (.long j2), .second] [(.long j2), (.long j1)])) _
    refine XS.lcmp X0.here hx rfl (hb hby d1_2) rfl ?_
    exact k
  have pre5 : ∀ t, Steps p.tables e below (s₁.setTop (mkF m 11 #[.val (.long j1), .second, .val (.long j2), .second] [(.long (own_j1_3_0 j1 j2))])) t → Steps p.tables e below (s₁.setTop (entryFrame m #[(.long j1), (.long j2)] 4)) t := by
    by_cases hc3_2 : j1 < j2
    · have pre3 : ∀ t, Steps p.tables e below (s₁.setTop (mkF m 11 #[.val (.long j1), .second, .val (.long j2), .second] [(.long j2)])) t → Steps p.tables e below (s₁.setTop (entryFrame m #[(.long j1), (.long j2)] 4)) t := by
        intro t k
        refine pre1 _ ?_
        show Steps p.tables e below (s₁.setTop (mkF m 3 #[.val (.long j1), .second, .val (.long j2), .second] [(.int (lcmpW j1 j2))])) _
        refine XS.ifYes X0.here hx rfl (pc0 := 3) (pc' := 10) rfl (hb hby d1_3) rfl ((if0 _ _).trans (tlt ((lw_lt j1 j2).mpr hc3_2)).1) (by decide) (by decide) ?_
        show Steps p.tables e below (s₁.setTop (mkF m 10 #[.val (.long j1), .second, .val (.long j2), .second] [])) _
        refine XS.lloadN X0.here hx rfl (hb hby d1_10) rfl ?_
        exact k
      exact fun t k => pre3 t (by rw [show (own_j1_3_0 j1 j2) = j2 from (if_pos hc3_2)] at k; exact k)
    · have pre4 : ∀ t, Steps p.tables e below (s₁.setTop (mkF m 11 #[.val (.long j1), .second, .val (.long j2), .second] [(.long j1)])) t → Steps p.tables e below (s₁.setTop (entryFrame m #[(.long j1), (.long j2)] 4)) t := by
        intro t k
        refine pre1 _ ?_
        show Steps p.tables e below (s₁.setTop (mkF m 3 #[.val (.long j1), .second, .val (.long j2), .second] [(.int (lcmpW j1 j2))])) _
        refine XS.ifNo X0.here hx rfl (hb hby d1_3) rfl ((if0 _ _).trans (flt (mt (lw_lt j1 j2).mp hc3_2)).1) ?_
        show Steps p.tables e below (s₁.setTop (mkF m 6 #[.val (.long j1), .second, .val (.long j2), .second] [])) _
        refine XS.lloadN X0.here hx rfl (hb hby d1_6) rfl ?_
        show Steps p.tables e below (s₁.setTop (mkF m 7 #[.val (.long j1), .second, .val (.long j2), .second] [(.long j1)])) _
        refine XS.goto X0.here hx rfl (pc0 := 7) (pc' := 11) rfl (hb hby d1_7) (by decide) (by decide) ?_
        exact k
      exact fun t k => pre4 t (by rw [show (own_j1_3_0 j1 j2) = j1 from (if_neg hc3_2)] at k; exact k)
  obtain ⟨fs, hr, hrun, hended, hW, hsame⟩ := X0.leave (v := some (.long (own_j1_3_0 j1 j2))) (fun h => by rw [Bd.returns] at h; cases h)
  refine ⟨_, _, pre5 _ ?_, hrun, hended, _, _, rfl, ?_, ⟨_, rfl⟩, hW, hsame.mono (by decide) (by decide)⟩
  · show Steps p.tables e below (s₁.setTop (mkF m 11 #[.val (.long j1), .second, .val (.long j2), .second] [(.long (own_j1_3_0 j1 j2))])) _
    jvm_step X0.here [X0.here.top, hx, (hb hby d1_11), X0.method', Bd.returns, narrow]
    first | (intro acts; rw [hr _ acts rfl rfl rfl]) | rw [hr _ _ rfl rfl rfl]
    exact Steps.refl _
  · show Q1 Z j1 j2 h0 n0 _ s₁.heap _
    rw [e0]
    exact ⟨rfl, N0, rfl⟩
def own_j2_3_0 (j1 : Int64) (j2 : Int64) : Int64 := (if j2 < j1 then j2 else j1)
def Q2 (Z : State) (j1 : Int64) (j2 : Int64) (h0 : Heap) (n0 : Nat) (v : Option Value) (h : Heap) (L : List Loc) : Prop := v = some (.long (own_j2_3_0 j1 j2)) ∧ Fr n0 L ∧ h = h0
theorem ef_2 (m : MethodId) (x0 : Int64) (x1 : Int64) : entryFrame m #[(.long x0), (.long x1)] 4 = mkF m 0 #[.val (.long x0), .second, .val (.long x1), .second] [] := by first | (simp [entryFrame, mkF, argsToLocals, Value.category]; done) | rfl
set_option maxRecDepth 65536 in
set_option maxHeartbeats 40000000 in
theorem rm2 (l : Launch) (Z : State) (a0 : Array Value) (hw : ∀ d ∈ tables_1, d.before a0 Z = true) (ws : List Jvm.Cond) (j1 : Int64) (j2 : Int64) (h0 : Heap) (n0 : Nat) (Z0 : n0 ≤ h0.size) :
    MetFree l (⟨"java/lang/Math", "min", "(JJ)J"⟩ : MethodName) (head1 (Jvm.Cond.code (⟨"java/lang/Math", "min", "(JJ)J"⟩ : MethodName) jdk_29_method_70_code 4 (some .long) :: ws) ({ frames := 0, cells := 0, slots := 0, locals := 0 } : Room)) (fun a U => a = #[(.long j1), (.long j2)] ∧ Z.Warmed39 U.vm ∧ U.heap = h0) (fun _ _ _ _ _ => True) (fun _ U o U' => ∃ v L, o = .returned v ∧ Q2 Z j1 j2 h0 n0 v U'.heap L ∧ FrameEnd U o U' L ({ frames := 0, cells := 0, slots := 0, locals := 0 } : Room).cells ({ frames := 0, cells := 0, slots := 0, locals := 0 } : Room).slots) := by
  refine MetFree.of_bodySF (Jvm.Free.JP.mathPlain rfl (by decide +kernel)) hisR ?_
  intro p e s m args below meth c s₁ Bd hml0 hP hK
  obtain ⟨rfl, hZ, hh⟩ := hP
  have hx := Bd.exec
  have hby := Bd.bytes
  have hml : c.maxLocals = 4 := hml0
  have hown : s.vm.findClass "java/lang/Math" = some m.cls := findClass_of_methodNamed Bd.named
  have hnm := (name_of_methodNamed Bd.named Bd.method).1
  have X0 : Stand p l e ({ frames := 0, cells := 0, slots := 0, locals := 0 } : Room) s m #[(.long j1), (.long j2)] below meth c s₁ [] 0 0 := Stand.of_body Bd
  have e0 : s₁.heap = h0 := by rw [← hh, Bd.state]; rfl
  have N0 := Fr.nil n0
  have pre0 : ∀ t, Steps p.tables e below (s₁.setTop (mkF m 0 #[.val (.long j1), .second, .val (.long j2), .second] [])) t → Steps p.tables e below (s₁.setTop (entryFrame m #[(.long j1), (.long j2)] 4)) t := fun t k => castTop (ef_2 m j1 j2) k
  have pre1 : ∀ t, Steps p.tables e below (s₁.setTop (mkF m 3 #[.val (.long j1), .second, .val (.long j2), .second] [(.int (lcmpW j1 j2))])) t → Steps p.tables e below (s₁.setTop (entryFrame m #[(.long j1), (.long j2)] 4)) t := by
    intro t k
    refine pre0 _ ?_
    show Steps p.tables e below (s₁.setTop (mkF m 0 #[.val (.long j1), .second, .val (.long j2), .second] [])) _
    refine XS.lloadN X0.here hx rfl (hb hby d2_0) rfl ?_
    show Steps p.tables e below (s₁.setTop (mkF m 1 #[.val (.long j1), .second, .val (.long j2), .second] [(.long j1)])) _
    refine XS.lloadN X0.here hx rfl (hb hby d2_1) rfl ?_
    show Steps p.tables e below (s₁.setTop (mkF m 2 #[.val (.long j1), .second, .val (.long j2), .second] [(.long j2), (.long j1)])) _
    refine XS.lcmp X0.here hx rfl (hb hby d2_2) rfl ?_
    exact k
  have pre5 : ∀ t, Steps p.tables e below (s₁.setTop (mkF m 11 #[.val (.long j1), .second, .val (.long j2), .second] [(.long (own_j2_3_0 j1 j2))])) t → Steps p.tables e below (s₁.setTop (entryFrame m #[(.long j1), (.long j2)] 4)) t := by
    by_cases hc3_2 : j2 < j1
    · have pre3 : ∀ t, Steps p.tables e below (s₁.setTop (mkF m 11 #[.val (.long j1), .second, .val (.long j2), .second] [(.long j2)])) t → Steps p.tables e below (s₁.setTop (entryFrame m #[(.long j1), (.long j2)] 4)) t := by
        intro t k
        refine pre1 _ ?_
        show Steps p.tables e below (s₁.setTop (mkF m 3 #[.val (.long j1), .second, .val (.long j2), .second] [(.int (lcmpW j1 j2))])) _
        refine XS.ifYes X0.here hx rfl (pc0 := 3) (pc' := 10) rfl (hb hby d2_3) rfl ((if0 _ _).trans (tlt ((lw_gt j1 j2).mpr hc3_2)).2.2.1) (by decide) (by decide) ?_
        show Steps p.tables e below (s₁.setTop (mkF m 10 #[.val (.long j1), .second, .val (.long j2), .second] [])) _
        refine XS.lloadN X0.here hx rfl (hb hby d2_10) rfl ?_
        exact k
      exact fun t k => pre3 t (by rw [show (own_j2_3_0 j1 j2) = j2 from (if_pos hc3_2)] at k; exact k)
    · have pre4 : ∀ t, Steps p.tables e below (s₁.setTop (mkF m 11 #[.val (.long j1), .second, .val (.long j2), .second] [(.long j1)])) t → Steps p.tables e below (s₁.setTop (entryFrame m #[(.long j1), (.long j2)] 4)) t := by
        intro t k
        refine pre1 _ ?_
        show Steps p.tables e below (s₁.setTop (mkF m 3 #[.val (.long j1), .second, .val (.long j2), .second] [(.int (lcmpW j1 j2))])) _
        refine XS.ifNo X0.here hx rfl (hb hby d2_3) rfl ((if0 _ _).trans (flt (mt (lw_gt j1 j2).mp hc3_2)).2.2.1) ?_
        show Steps p.tables e below (s₁.setTop (mkF m 6 #[.val (.long j1), .second, .val (.long j2), .second] [])) _
        refine XS.lloadN X0.here hx rfl (hb hby d2_6) rfl ?_
        show Steps p.tables e below (s₁.setTop (mkF m 7 #[.val (.long j1), .second, .val (.long j2), .second] [(.long j1)])) _
        refine XS.goto X0.here hx rfl (pc0 := 7) (pc' := 11) rfl (hb hby d2_7) (by decide) (by decide) ?_
        exact k
      exact fun t k => pre4 t (by rw [show (own_j2_3_0 j1 j2) = j1 from (if_neg hc3_2)] at k; exact k)
  obtain ⟨fs, hr, hrun, hended, hW, hsame⟩ := X0.leave (v := some (.long (own_j2_3_0 j1 j2))) (fun h => by rw [Bd.returns] at h; cases h)
  refine ⟨_, _, pre5 _ ?_, hrun, hended, _, _, rfl, ?_, ⟨_, rfl⟩, hW, hsame.mono (by decide) (by decide)⟩
  · show Steps p.tables e below (s₁.setTop (mkF m 11 #[.val (.long j1), .second, .val (.long j2), .second] [(.long (own_j2_3_0 j1 j2))])) _
    jvm_step X0.here [X0.here.top, hx, (hb hby d2_11), X0.method', Bd.returns, narrow]
    first | (intro acts; rw [hr _ acts rfl rfl rfl]) | rw [hr _ _ rfl rfl rfl]
    exact Steps.refl _
  · show Q2 Z j1 j2 h0 n0 _ s₁.heap _
    rw [e0]
    exact ⟨rfl, N0, rfl⟩
def Q4 (Z : State) (r0 : Addr) (h0 : Heap) (n0 : Nat) (v : Option Value) (h : Heap) (L : List Loc) : Prop := v = none ∧ Fr n0 L ∧ h = h0
theorem ef_4 (m : MethodId) (x0 : Addr) : entryFrame m #[(.ref x0)] 1 = mkF m 0 #[.val (.ref x0)] [] := by first | (simp [entryFrame, mkF, argsToLocals, Value.category]; done) | rfl
set_option maxRecDepth 65536 in
set_option maxHeartbeats 40000000 in
theorem rm4 (l : Launch) (Z : State) (a0 : Array Value) (hw : ∀ d ∈ tables_1, d.before a0 Z = true) (ws : List Jvm.Cond) (r0 : Addr) (h0 : Heap) (n0 : Nat) (Z0 : n0 ≤ h0.size) :
    MetFree l (⟨"java/lang/Record", "<init>", "()V"⟩ : MethodName) (head1 (Jvm.Cond.code (⟨"java/lang/Record", "<init>", "()V"⟩ : MethodName) jdk_30_method_1_code 1 none :: ws) ({ frames := 1, cells := 0, slots := 0, locals := 12 } : Room)) (fun a U => a = #[(.ref r0)] ∧ Z.Warmed39 U.vm ∧ U.heap = h0) (fun _ _ _ _ _ => True) (fun _ U o U' => ∃ v L, o = .returned v ∧ Q4 Z r0 h0 n0 v U'.heap L ∧ FrameEnd U o U' L ({ frames := 1, cells := 0, slots := 0, locals := 12 } : Room).cells ({ frames := 1, cells := 0, slots := 0, locals := 12 } : Room).slots) := by
  refine MetFree.of_bodySF (plainFor_of_name pn_0) hisR ?_
  intro p e s m args below meth c s₁ Bd hml0 hP hK
  obtain ⟨rfl, hZ, hh⟩ := hP
  have hx := Bd.exec
  have hby := Bd.bytes
  have hml : c.maxLocals = 1 := hml0
  have hown : s.vm.findClass "java/lang/Record" = some m.cls := findClass_of_methodNamed Bd.named
  have hnm := (name_of_methodNamed Bd.named Bd.method).1
  have X0 : Stand p l e ({ frames := 1, cells := 0, slots := 0, locals := 12 } : Room) s m #[(.ref r0)] below meth c s₁ [] 0 0 := Stand.of_body Bd
  have e0 : s₁.heap = h0 := by rw [← hh, Bd.state]; rfl
  have N0 := Fr.nil n0
  have pre0 : ∀ t, Steps p.tables e below (s₁.setTop (mkF m 0 #[.val (.ref r0)] [])) t → Steps p.tables e below (s₁.setTop (entryFrame m #[(.ref r0)] 1)) t := fun t k => castTop (ef_4 m r0) k
  obtain ⟨T1, X1, e1, st1⟩ := initO X0 hx hZ hown (hw _ (List.mem_of_getElem? (i := 20) rfl)) (hw _ (List.mem_of_getElem? (i := 21) rfl)) (hw _ (List.mem_of_getElem? (i := 22) rfl)) e0 (g := (mkF m 1 #[.val (.ref r0)] [(.ref r0)])) rfl (by rw [hml]; rfl) rfl (hb hby d4_1) (by decide) (W := 0) (by show 2 * 0 + _ ≤ _; exact Nat.le_of_eq rfl) (by decide)
  have pre2 : ∀ t, Steps p.tables e below (T1.setTop (mkF m 4 #[.val (.ref r0)] [])) t → Steps p.tables e below (s₁.setTop (entryFrame m #[(.ref r0)] 1)) t := by
    intro t k
    refine pre0 _ ?_
    show Steps p.tables e below (s₁.setTop (mkF m 0 #[.val (.ref r0)] [])) _
    refine XS.aloadN X0.here hx rfl (hb hby d4_0) rfl rfl ?_
    show Steps p.tables e below (s₁.setTop (mkF m 1 #[.val (.ref r0)] [(.ref r0)])) _
    refine st1 _ ?_
    exact k
  obtain ⟨fs, hr, hrun, hended, hW, hsame⟩ := X1.leave (v := none) (fun _ => rfl)
  refine ⟨_, _, pre2 _ ?_, hrun, hended, _, _, rfl, ?_, ⟨_, rfl⟩, hW, hsame.mono (by decide) (by decide)⟩
  · show Steps p.tables e below (T1.setTop (mkF m 4 #[.val (.ref r0)] [])) _
    exact X1.returnOut hx Bd.returns (hb hby d4_4) hr
  · show Q4 Z r0 h0 n0 _ T1.heap _
    rw [e1]
    exact ⟨rfl, N0, rfl⟩
def Q3 (Z : State) (r0 : Addr) (i1 : Int32) (j2 : Int64) (j3 : Int64) (j4 : Int64) (j5 : Int64) (i6 : Int32) (u_allowed_r0 : Value) (u_limit_r0 : Value) (u_remaining_r0 : Value) (u_retryAfterMillis_r0 : Value) (u_resetAfterMillis_r0 : Value) (u_degraded_r0 : Value) (h0 : Heap) (n0 : Nat) (v : Option Value) (h : Heap) (L : List Loc) : Prop := v = none ∧ Fr n0 L ∧ Keep h0 h [r0] ∧ Exa Z h r0 "com/example/burst/burst/Decision" ∧ Fld Z h r0 "com/example/burst/burst/Decision" "allowed" "Z" (.int (nar .boolean i1)) ∧ Fld Z h r0 "com/example/burst/burst/Decision" "limit" "J" (.long j2) ∧ Fld Z h r0 "com/example/burst/burst/Decision" "remaining" "J" (.long j3) ∧ Fld Z h r0 "com/example/burst/burst/Decision" "retryAfterMillis" "J" (.long j4) ∧ Fld Z h r0 "com/example/burst/burst/Decision" "resetAfterMillis" "J" (.long j5) ∧ Fld Z h r0 "com/example/burst/burst/Decision" "degraded" "Z" (.int (nar .boolean i6))
theorem ef_3 (m : MethodId) (x0 : Addr) (x1 : Int32) (x2 : Int64) (x3 : Int64) (x4 : Int64) (x5 : Int64) (x6 : Int32) : entryFrame m #[(.ref x0), (.int x1), (.long x2), (.long x3), (.long x4), (.long x5), (.int x6)] 11 = mkF m 0 #[.val (.ref x0), .val (.int x1), .val (.long x2), .second, .val (.long x3), .second, .val (.long x4), .second, .val (.long x5), .second, .val (.int x6)] [] := by first | (simp [entryFrame, mkF, argsToLocals, Value.category]; done) | rfl
set_option maxRecDepth 65536 in
set_option maxHeartbeats 40000000 in
theorem rm3 (l : Launch) (Z : State) (a0 : Array Value) (hw : ∀ d ∈ tables_1, d.before a0 Z = true) (ws : List Jvm.Cond) (r0 : Addr) (i1 : Int32) (j2 : Int64) (j3 : Int64) (j4 : Int64) (j5 : Int64) (i6 : Int32) (u_allowed_r0 : Value) (u_limit_r0 : Value) (u_remaining_r0 : Value) (u_retryAfterMillis_r0 : Value) (u_resetAfterMillis_r0 : Value) (u_degraded_r0 : Value) (h0 : Heap) (n0 : Nat) (Z0 : n0 ≤ h0.size) (hp8_0 : ¬ (j3 < (0 : Int64))) (hp15_1 : ¬ (j2 < j3)) (hp40_2 : ¬ (j4 < (-1 : Int64))) (hp68 : (¬ (i1 = (0 : Int32)) → j4 = (-1 : Int64))) (hp90_4 : ¬ (j5 < (0 : Int64))) (E_r0 : Exa Z h0 r0 "com/example/burst/burst/Decision") (F_allowed_r0 : Fld Z h0 r0 "com/example/burst/burst/Decision" "allowed" "Z" u_allowed_r0) (g_r0 : n0 ≤ r0) (F_limit_r0 : Fld Z h0 r0 "com/example/burst/burst/Decision" "limit" "J" u_limit_r0) (F_remaining_r0 : Fld Z h0 r0 "com/example/burst/burst/Decision" "remaining" "J" u_remaining_r0) (F_retryAfterMillis_r0 : Fld Z h0 r0 "com/example/burst/burst/Decision" "retryAfterMillis" "J" u_retryAfterMillis_r0) (F_resetAfterMillis_r0 : Fld Z h0 r0 "com/example/burst/burst/Decision" "resetAfterMillis" "J" u_resetAfterMillis_r0) (F_degraded_r0 : Fld Z h0 r0 "com/example/burst/burst/Decision" "degraded" "Z" u_degraded_r0) :
    MetFree l (⟨"com/example/burst/burst/Decision", "<init>", "(ZJJJJZ)V"⟩ : MethodName) (head1 (Jvm.Cond.code (⟨"com/example/burst/burst/Decision", "<init>", "(ZJJJJZ)V"⟩ : MethodName) prog_3_method_1_code 11 none :: ws) ({ frames := 2, cells := 0, slots := 0, locals := 24 } : Room)) (fun a U => a = #[(.ref r0), (.int i1), (.long j2), (.long j3), (.long j4), (.long j5), (.int i6)] ∧ Z.Warmed39 U.vm ∧ U.heap = h0) (fun _ _ _ _ _ => True) (fun _ U o U' => ∃ v L, o = .returned v ∧ Q3 Z r0 i1 j2 j3 j4 j5 i6 u_allowed_r0 u_limit_r0 u_remaining_r0 u_retryAfterMillis_r0 u_resetAfterMillis_r0 u_degraded_r0 h0 n0 v U'.heap L ∧ FrameEnd U o U' L ({ frames := 2, cells := 0, slots := 0, locals := 24 } : Room).cells ({ frames := 2, cells := 0, slots := 0, locals := 24 } : Room).slots) := by
  refine MetFree.of_bodySF (plainFor_of_name pn_1) hisR ?_
  intro p e s m args below meth c s₁ Bd hml0 hP hK
  obtain ⟨rfl, hZ, hh⟩ := hP
  have hx := Bd.exec
  have hby := Bd.bytes
  have hml : c.maxLocals = 11 := hml0
  have hown : s.vm.findClass "com/example/burst/burst/Decision" = some m.cls := findClass_of_methodNamed Bd.named
  have hnm := (name_of_methodNamed Bd.named Bd.method).1
  have X0 : Stand p l e ({ frames := 2, cells := 0, slots := 0, locals := 24 } : Room) s m #[(.ref r0), (.int i1), (.long j2), (.long j3), (.long j4), (.long j5), (.int i6)] below meth c s₁ [] 0 0 := Stand.of_body Bd
  have e0 : s₁.heap = h0 := by rw [← hh, Bd.state]; rfl
  have N0 := Fr.nil n0
  have pre0 : ∀ t, Steps p.tables e below (s₁.setTop (mkF m 0 #[.val (.ref r0), .val (.int i1), .val (.long j2), .second, .val (.long j3), .second, .val (.long j4), .second, .val (.long j5), .second, .val (.int i6)] [])) t → Steps p.tables e below (s₁.setTop (entryFrame m #[(.ref r0), (.int i1), (.long j2), (.long j3), (.long j4), (.long j5), (.int i6)] 11)) t := fun t k => castTop (ef_3 m r0 i1 j2 j3 j4 j5 i6) k
  obtain ⟨_, _, ⟨T1, L1, k1, n1⟩, -, X1, ⟨Lc1, hQ1, l1, y1, z1⟩, st1⟩ := X0.specialBack hx (y := (⟨"java/lang/Record", "<init>", "()V"⟩ : MethodName)) rfl hown (mvT hZ (hw _ (List.mem_of_getElem? (i := 15) rfl))) (mvT hZ (hw _ (List.mem_of_getElem? (i := 16) rfl))) (mvT hZ (hw _ (List.mem_of_getElem? (i := 19) rfl))) (by decide) (backOf (W := 0) (rm4 l Z a0 hw [] r0 h0 n0 (Nat.le_trans Z0 (Keep.refl h0 [r0]).1) ) hZ (hw _ (List.mem_of_getElem? (i := 19) rfl)) (hw _ (List.mem_of_getElem? (i := 18) rfl)) (by decide) (by decide)) (g := (mkF m 1 #[.val (.ref r0), .val (.int i1), .val (.long j2), .second, .val (.long j3), .second, .val (.long j4), .second, .val (.long j5), .second, .val (.int i6)] [(.ref r0)])) rfl (by rw [hml]; rfl) (Steps.refl _) (a := r0) (argsL := []) (rest := []) (lenOf pd_1 rfl) rfl (by show 2 * 0 + _ ≤ _; exact Nat.le_of_eq rfl) (hb hby d3_1) (fun _ _ => ⟨rfl, e0, (by decide : 0 + 0 ≤ _), (by decide : 0 + 0 ≤ _)⟩)
  dsimp only [Pt.U, Pt.locs, Pt.cells, Pt.slots] at X1 l1 y1 z1 st1 hQ1
  subst l1 y1 z1
  obtain ⟨rfl, Nq1, e1⟩ := hQ1
  have N1 := Fr.app N0 Nq1
  have pre2 : ∀ t, Steps p.tables e below (T1.setTop (mkF m 59 #[.val (.ref r0), .val (.int i1), .val (.long j2), .second, .val (.long j3), .second, .val (.long j4), .second, .val (.long j5), .second, .val (.int i6)] [(.int i1)])) t → Steps p.tables e below (s₁.setTop (entryFrame m #[(.ref r0), (.int i1), (.long j2), (.long j3), (.long j4), (.long j5), (.int i6)] 11)) t := by
    intro t k
    refine pre0 _ ?_
    show Steps p.tables e below (s₁.setTop (mkF m 0 #[.val (.ref r0), .val (.int i1), .val (.long j2), .second, .val (.long j3), .second, .val (.long j4), .second, .val (.long j5), .second, .val (.int i6)] [])) _
    refine XS.aloadN X0.here hx rfl (hb hby d3_0) rfl rfl ?_
    show Steps p.tables e below (s₁.setTop (mkF m 1 #[.val (.ref r0), .val (.int i1), .val (.long j2), .second, .val (.long j3), .second, .val (.long j4), .second, .val (.long j5), .second, .val (.int i6)] [(.ref r0)])) _
    refine st1.trans ?_
    show Steps p.tables e below (T1.setTop (mkF m 4 #[.val (.ref r0), .val (.int i1), .val (.long j2), .second, .val (.long j3), .second, .val (.long j4), .second, .val (.long j5), .second, .val (.int i6)] [])) _
    refine XS.lload X1.here hx rfl (hb hby d3_4) rfl ?_
    show Steps p.tables e below (T1.setTop (mkF m 6 #[.val (.ref r0), .val (.int i1), .val (.long j2), .second, .val (.long j3), .second, .val (.long j4), .second, .val (.long j5), .second, .val (.int i6)] [(.long j3)])) _
    refine XS.lconst X1.here hx rfl (hb hby d3_6) ?_
    show Steps p.tables e below (T1.setTop (mkF m 7 #[.val (.ref r0), .val (.int i1), .val (.long j2), .second, .val (.long j3), .second, .val (.long j4), .second, .val (.long j5), .second, .val (.int i6)] [(.long (0 : Int64)), (.long j3)])) _
    refine XS.lcmp X1.here hx rfl (hb hby d3_7) rfl ?_
    show Steps p.tables e below (T1.setTop (mkF m 8 #[.val (.ref r0), .val (.int i1), .val (.long j2), .second, .val (.long j3), .second, .val (.long j4), .second, .val (.long j5), .second, .val (.int i6)] [(.int (lcmpW j3 (0 : Int64)))])) _
    refine XS.ifNo X1.here hx rfl (hb hby d3_8) rfl ((if0 _ _).trans (flt (mt (lw_lt j3 (0 : Int64)).mp hp8_0)).1) ?_
    show Steps p.tables e below (T1.setTop (mkF m 11 #[.val (.ref r0), .val (.int i1), .val (.long j2), .second, .val (.long j3), .second, .val (.long j4), .second, .val (.long j5), .second, .val (.int i6)] [])) _
    refine XS.lload X1.here hx rfl (hb hby d3_11) rfl ?_
    show Steps p.tables e below (T1.setTop (mkF m 13 #[.val (.ref r0), .val (.int i1), .val (.long j2), .second, .val (.long j3), .second, .val (.long j4), .second, .val (.long j5), .second, .val (.int i6)] [(.long j3)])) _
    refine XS.lloadN X1.here hx rfl (hb hby d3_13) rfl ?_
    show Steps p.tables e below (T1.setTop (mkF m 14 #[.val (.ref r0), .val (.int i1), .val (.long j2), .second, .val (.long j3), .second, .val (.long j4), .second, .val (.long j5), .second, .val (.int i6)] [(.long j2), (.long j3)])) _
    refine XS.lcmp X1.here hx rfl (hb hby d3_14) rfl ?_
    show Steps p.tables e below (T1.setTop (mkF m 15 #[.val (.ref r0), .val (.int i1), .val (.long j2), .second, .val (.long j3), .second, .val (.long j4), .second, .val (.long j5), .second, .val (.int i6)] [(.int (lcmpW j3 j2))])) _
    refine XS.ifYes X1.here hx rfl (pc0 := 15) (pc' := 34) rfl (hb hby d3_15) rfl ((if0 _ _).trans (flt (mt (lw_gt j3 j2).mp hp15_1)).2.2.2) (by decide) (by decide) ?_
    show Steps p.tables e below (T1.setTop (mkF m 34 #[.val (.ref r0), .val (.int i1), .val (.long j2), .second, .val (.long j3), .second, .val (.long j4), .second, .val (.long j5), .second, .val (.int i6)] [])) _
    refine XS.lload X1.here hx rfl (hb hby d3_34) rfl ?_
    show Steps p.tables e below (T1.setTop (mkF m 36 #[.val (.ref r0), .val (.int i1), .val (.long j2), .second, .val (.long j3), .second, .val (.long j4), .second, .val (.long j5), .second, .val (.int i6)] [(.long j4)])) _
    refine X1.ldc2Long hx hown (mvT hZ (hw _ (List.mem_of_getElem? (i := 23) rfl))) (g := (mkF m 36 #[.val (.ref r0), .val (.int i1), .val (.long j2), .second, .val (.long j3), .second, .val (.long j4), .second, .val (.long j5), .second, .val (.int i6)] [(.long j4)])) rfl (hb hby d3_36) _ ?_
    show Steps p.tables e below (T1.setTop (mkF m 39 #[.val (.ref r0), .val (.int i1), .val (.long j2), .second, .val (.long j3), .second, .val (.long j4), .second, .val (.long j5), .second, .val (.int i6)] [(.long (-1 : Int64)), (.long j4)])) _
    refine XS.lcmp X1.here hx rfl (hb hby d3_39) rfl ?_
    show Steps p.tables e below (T1.setTop (mkF m 40 #[.val (.ref r0), .val (.int i1), .val (.long j2), .second, .val (.long j3), .second, .val (.long j4), .second, .val (.long j5), .second, .val (.int i6)] [(.int (lcmpW j4 (-1 : Int64)))])) _
    refine XS.ifYes X1.here hx rfl (pc0 := 40) (pc' := 58) rfl (hb hby d3_40) rfl ((if0 _ _).trans (flt (mt (lw_lt j4 (-1 : Int64)).mp hp40_2)).2.1) (by decide) (by decide) ?_
    show Steps p.tables e below (T1.setTop (mkF m 58 #[.val (.ref r0), .val (.int i1), .val (.long j2), .second, .val (.long j3), .second, .val (.long j4), .second, .val (.long j5), .second, .val (.int i6)] [])) _
    refine XS.iloadN X1.here hx rfl (hb hby d3_58) rfl ?_
    exact k
  have pre7 : ∀ t, Steps p.tables e below (T1.setTop (mkF m 86 #[.val (.ref r0), .val (.int i1), .val (.long j2), .second, .val (.long j3), .second, .val (.long j4), .second, .val (.long j5), .second, .val (.int i6)] [])) t → Steps p.tables e below (s₁.setTop (entryFrame m #[(.ref r0), (.int i1), (.long j2), (.long j3), (.long j4), (.long j5), (.int i6)] 11)) t := by
    by_cases hc59_3 : i1 = (0 : Int32)
    · have pre4 : ∀ t, Steps p.tables e below (T1.setTop (mkF m 86 #[.val (.ref r0), .val (.int i1), .val (.long j2), .second, .val (.long j3), .second, .val (.long j4), .second, .val (.long j5), .second, .val (.int i6)] [])) t → Steps p.tables e below (s₁.setTop (entryFrame m #[(.ref r0), (.int i1), (.long j2), (.long j3), (.long j4), (.long j5), (.int i6)] 11)) t := by
        intro t k
        refine pre2 _ ?_
        show Steps p.tables e below (T1.setTop (mkF m 59 #[.val (.ref r0), .val (.int i1), .val (.long j2), .second, .val (.long j3), .second, .val (.long j4), .second, .val (.long j5), .second, .val (.int i6)] [(.int i1)])) _
        refine XS.ifYes X1.here hx rfl (pc0 := 59) (pc' := 86) rfl (hb hby d3_59) rfl ((if0 _ _).trans (teq hc59_3).1) (by decide) (by decide) ?_
        exact k
      exact pre4
    · have hr5 : j4 = (-1 : Int64) := hp68 hc59_3
      have pre6 : ∀ t, Steps p.tables e below (T1.setTop (mkF m 86 #[.val (.ref r0), .val (.int i1), .val (.long j2), .second, .val (.long j3), .second, .val (.long j4), .second, .val (.long j5), .second, .val (.int i6)] [])) t → Steps p.tables e below (s₁.setTop (entryFrame m #[(.ref r0), (.int i1), (.long j2), (.long j3), (.long j4), (.long j5), (.int i6)] 11)) t := by
        intro t k
        refine pre2 _ ?_
        show Steps p.tables e below (T1.setTop (mkF m 59 #[.val (.ref r0), .val (.int i1), .val (.long j2), .second, .val (.long j3), .second, .val (.long j4), .second, .val (.long j5), .second, .val (.int i6)] [(.int i1)])) _
        refine XS.ifNo X1.here hx rfl (hb hby d3_59) rfl ((if0 _ _).trans (feq hc59_3).1) ?_
        show Steps p.tables e below (T1.setTop (mkF m 62 #[.val (.ref r0), .val (.int i1), .val (.long j2), .second, .val (.long j3), .second, .val (.long j4), .second, .val (.long j5), .second, .val (.int i6)] [])) _
        refine XS.lload X1.here hx rfl (hb hby d3_62) rfl ?_
        show Steps p.tables e below (T1.setTop (mkF m 64 #[.val (.ref r0), .val (.int i1), .val (.long j2), .second, .val (.long j3), .second, .val (.long j4), .second, .val (.long j5), .second, .val (.int i6)] [(.long j4)])) _
        refine X1.ldc2Long hx hown (mvT hZ (hw _ (List.mem_of_getElem? (i := 23) rfl))) (g := (mkF m 64 #[.val (.ref r0), .val (.int i1), .val (.long j2), .second, .val (.long j3), .second, .val (.long j4), .second, .val (.long j5), .second, .val (.int i6)] [(.long j4)])) rfl (hb hby d3_64) _ ?_
        show Steps p.tables e below (T1.setTop (mkF m 67 #[.val (.ref r0), .val (.int i1), .val (.long j2), .second, .val (.long j3), .second, .val (.long j4), .second, .val (.long j5), .second, .val (.int i6)] [(.long (-1 : Int64)), (.long j4)])) _
        refine XS.lcmp X1.here hx rfl (hb hby d3_67) rfl ?_
        show Steps p.tables e below (T1.setTop (mkF m 68 #[.val (.ref r0), .val (.int i1), .val (.long j2), .second, .val (.long j3), .second, .val (.long j4), .second, .val (.long j5), .second, .val (.int i6)] [(.int (lcmpW j4 (-1 : Int64)))])) _
        refine XS.ifYes X1.here hx rfl (pc0 := 68) (pc' := 86) rfl (hb hby d3_68) rfl ((if0 _ _).trans (teq ((lw_eq j4 (-1 : Int64)).mpr hr5)).1) (by decide) (by decide) ?_
        exact k
      exact pre6
  obtain ⟨T8, h8, X8, e8, W8, st8⟩ := putFN X1 hx hZ hown (hw _ (List.mem_of_getElem? (i := 24) rfl)) Via.refl e1 F_allowed_r0 E_r0 (Or.inr ⟨(hw _ (List.mem_of_getElem? (i := 25) rfl)), rfl, hnm⟩) (hw _ (List.mem_of_getElem? (i := 10) rfl)) (ty := .boolean) (v' := (.int (nar .boolean i1))) (by decide) rfl (fits_nar_bool _) (g := (mkF m 110 #[.val (.ref r0), .val (.int i1), .val (.long j2), .second, .val (.long j3), .second, .val (.long j4), .second, .val (.long j5), .second, .val (.int i6)] [(.int i1), (.ref r0)])) rfl rfl (hb hby d3_110)
  have N8 := Fr.snoc X8 N1 g_r0
  have K9 : Keep h0 h8 [r0] := (Keep.refl h0 [r0]).wr W8 (Or.inl (List.mem_of_getElem? (i := 0) rfl))
  have F8 := F_allowed_r0.same W8
  have f10 := (E_r0.wr W8)
  have f11 := (F_limit_r0.other W8 (Or.inr (slot_ne (Or.inr (hw _ (List.mem_of_getElem? (i := 27) rfl))) (Or.inr (hw _ (List.mem_of_getElem? (i := 25) rfl))) (by decide) (t := .long) (t' := .boolean) (by decide) (by decide))))
  obtain ⟨T12, h12, X12, e12, W12, st12⟩ := putF X8 hx hZ hown (host := "") (Or.inl (hw _ (List.mem_of_getElem? (i := 26) rfl))) Via.refl e8 f11 f10 (Or.inr ⟨(hw _ (List.mem_of_getElem? (i := 27) rfl)), rfl, hnm⟩) (hw _ (List.mem_of_getElem? (i := 10) rfl)) (ty := .long) (by decide) rfl rfl (g := (mkF m 115 #[.val (.ref r0), .val (.int i1), .val (.long j2), .second, .val (.long j3), .second, .val (.long j4), .second, .val (.long j5), .second, .val (.int i6)] [(.long j2), (.ref r0)])) rfl rfl (hb hby d3_115)
  have N12 := Fr.snoc X12 N8 g_r0
  have K13 : Keep h0 h12 [r0] := K9.wr W12 (Or.inl (List.mem_of_getElem? (i := 0) rfl))
  have F12 := f11.same W12
  have f14 := (f10.wr W12)
  have f15 := ((F_remaining_r0.other W8 (Or.inr (slot_ne (Or.inr (hw _ (List.mem_of_getElem? (i := 29) rfl))) (Or.inr (hw _ (List.mem_of_getElem? (i := 25) rfl))) (by decide) (t := .long) (t' := .boolean) (by decide) (by decide)))).other W12 (Or.inr (slot_ne (Or.inr (hw _ (List.mem_of_getElem? (i := 29) rfl))) (Or.inr (hw _ (List.mem_of_getElem? (i := 27) rfl))) (by decide) (t := .long) (t' := .long) (by decide) (by decide))))
  obtain ⟨T16, h16, X16, e16, W16, st16⟩ := putF X12 hx hZ hown (host := "") (Or.inl (hw _ (List.mem_of_getElem? (i := 28) rfl))) Via.refl e12 f15 f14 (Or.inr ⟨(hw _ (List.mem_of_getElem? (i := 29) rfl)), rfl, hnm⟩) (hw _ (List.mem_of_getElem? (i := 10) rfl)) (ty := .long) (by decide) rfl rfl (g := (mkF m 121 #[.val (.ref r0), .val (.int i1), .val (.long j2), .second, .val (.long j3), .second, .val (.long j4), .second, .val (.long j5), .second, .val (.int i6)] [(.long j3), (.ref r0)])) rfl rfl (hb hby d3_121)
  have N16 := Fr.snoc X16 N12 g_r0
  have K17 : Keep h0 h16 [r0] := K13.wr W16 (Or.inl (List.mem_of_getElem? (i := 0) rfl))
  have F16 := f15.same W16
  have f18 := (f14.wr W16)
  have f19 := (((F_retryAfterMillis_r0.other W8 (Or.inr (slot_ne (Or.inr (hw _ (List.mem_of_getElem? (i := 31) rfl))) (Or.inr (hw _ (List.mem_of_getElem? (i := 25) rfl))) (by decide) (t := .long) (t' := .boolean) (by decide) (by decide)))).other W12 (Or.inr (slot_ne (Or.inr (hw _ (List.mem_of_getElem? (i := 31) rfl))) (Or.inr (hw _ (List.mem_of_getElem? (i := 27) rfl))) (by decide) (t := .long) (t' := .long) (by decide) (by decide)))).other W16 (Or.inr (slot_ne (Or.inr (hw _ (List.mem_of_getElem? (i := 31) rfl))) (Or.inr (hw _ (List.mem_of_getElem? (i := 29) rfl))) (by decide) (t := .long) (t' := .long) (by decide) (by decide))))
  obtain ⟨T20, h20, X20, e20, W20, st20⟩ := putF X16 hx hZ hown (host := "") (Or.inl (hw _ (List.mem_of_getElem? (i := 30) rfl))) Via.refl e16 f19 f18 (Or.inr ⟨(hw _ (List.mem_of_getElem? (i := 31) rfl)), rfl, hnm⟩) (hw _ (List.mem_of_getElem? (i := 10) rfl)) (ty := .long) (by decide) rfl rfl (g := (mkF m 127 #[.val (.ref r0), .val (.int i1), .val (.long j2), .second, .val (.long j3), .second, .val (.long j4), .second, .val (.long j5), .second, .val (.int i6)] [(.long j4), (.ref r0)])) rfl rfl (hb hby d3_127)
  have N20 := Fr.snoc X20 N16 g_r0
  have K21 : Keep h0 h20 [r0] := K17.wr W20 (Or.inl (List.mem_of_getElem? (i := 0) rfl))
  have F20 := f19.same W20
  have f22 := (f18.wr W20)
  have f23 := ((((F_resetAfterMillis_r0.other W8 (Or.inr (slot_ne (Or.inr (hw _ (List.mem_of_getElem? (i := 33) rfl))) (Or.inr (hw _ (List.mem_of_getElem? (i := 25) rfl))) (by decide) (t := .long) (t' := .boolean) (by decide) (by decide)))).other W12 (Or.inr (slot_ne (Or.inr (hw _ (List.mem_of_getElem? (i := 33) rfl))) (Or.inr (hw _ (List.mem_of_getElem? (i := 27) rfl))) (by decide) (t := .long) (t' := .long) (by decide) (by decide)))).other W16 (Or.inr (slot_ne (Or.inr (hw _ (List.mem_of_getElem? (i := 33) rfl))) (Or.inr (hw _ (List.mem_of_getElem? (i := 29) rfl))) (by decide) (t := .long) (t' := .long) (by decide) (by decide)))).other W20 (Or.inr (slot_ne (Or.inr (hw _ (List.mem_of_getElem? (i := 33) rfl))) (Or.inr (hw _ (List.mem_of_getElem? (i := 31) rfl))) (by decide) (t := .long) (t' := .long) (by decide) (by decide))))
  obtain ⟨T24, h24, X24, e24, W24, st24⟩ := putF X20 hx hZ hown (host := "") (Or.inl (hw _ (List.mem_of_getElem? (i := 32) rfl))) Via.refl e20 f23 f22 (Or.inr ⟨(hw _ (List.mem_of_getElem? (i := 33) rfl)), rfl, hnm⟩) (hw _ (List.mem_of_getElem? (i := 10) rfl)) (ty := .long) (by decide) rfl rfl (g := (mkF m 133 #[.val (.ref r0), .val (.int i1), .val (.long j2), .second, .val (.long j3), .second, .val (.long j4), .second, .val (.long j5), .second, .val (.int i6)] [(.long j5), (.ref r0)])) rfl rfl (hb hby d3_133)
  have N24 := Fr.snoc X24 N20 g_r0
  have K25 : Keep h0 h24 [r0] := K21.wr W24 (Or.inl (List.mem_of_getElem? (i := 0) rfl))
  have F24 := f23.same W24
  have f26 := (f22.wr W24)
  have f27 := (((((F_degraded_r0.other W8 (Or.inr (slot_ne (Or.inr (hw _ (List.mem_of_getElem? (i := 35) rfl))) (Or.inr (hw _ (List.mem_of_getElem? (i := 25) rfl))) (by decide) (t := .boolean) (t' := .boolean) (by decide) (by decide)))).other W12 (Or.inr (slot_ne (Or.inr (hw _ (List.mem_of_getElem? (i := 35) rfl))) (Or.inr (hw _ (List.mem_of_getElem? (i := 27) rfl))) (by decide) (t := .boolean) (t' := .long) (by decide) (by decide)))).other W16 (Or.inr (slot_ne (Or.inr (hw _ (List.mem_of_getElem? (i := 35) rfl))) (Or.inr (hw _ (List.mem_of_getElem? (i := 29) rfl))) (by decide) (t := .boolean) (t' := .long) (by decide) (by decide)))).other W20 (Or.inr (slot_ne (Or.inr (hw _ (List.mem_of_getElem? (i := 35) rfl))) (Or.inr (hw _ (List.mem_of_getElem? (i := 31) rfl))) (by decide) (t := .boolean) (t' := .long) (by decide) (by decide)))).other W24 (Or.inr (slot_ne (Or.inr (hw _ (List.mem_of_getElem? (i := 35) rfl))) (Or.inr (hw _ (List.mem_of_getElem? (i := 33) rfl))) (by decide) (t := .boolean) (t' := .long) (by decide) (by decide))))
  obtain ⟨T28, h28, X28, e28, W28, st28⟩ := putFN X24 hx hZ hown (hw _ (List.mem_of_getElem? (i := 34) rfl)) Via.refl e24 f27 f26 (Or.inr ⟨(hw _ (List.mem_of_getElem? (i := 35) rfl)), rfl, hnm⟩) (hw _ (List.mem_of_getElem? (i := 10) rfl)) (ty := .boolean) (v' := (.int (nar .boolean i6))) (by decide) rfl (fits_nar_bool _) (g := (mkF m 139 #[.val (.ref r0), .val (.int i1), .val (.long j2), .second, .val (.long j3), .second, .val (.long j4), .second, .val (.long j5), .second, .val (.int i6)] [(.int i6), (.ref r0)])) rfl rfl (hb hby d3_139)
  have N28 := Fr.snoc X28 N24 g_r0
  have K29 : Keep h0 h28 [r0] := K25.wr W28 (Or.inl (List.mem_of_getElem? (i := 0) rfl))
  have F28 := f27.same W28
  have pre30 : ∀ t, Steps p.tables e below (T28.setTop (mkF m 142 #[.val (.ref r0), .val (.int i1), .val (.long j2), .second, .val (.long j3), .second, .val (.long j4), .second, .val (.long j5), .second, .val (.int i6)] [])) t → Steps p.tables e below (s₁.setTop (entryFrame m #[(.ref r0), (.int i1), (.long j2), (.long j3), (.long j4), (.long j5), (.int i6)] 11)) t := by
    intro t k
    refine pre7 _ ?_
    show Steps p.tables e below (T1.setTop (mkF m 86 #[.val (.ref r0), .val (.int i1), .val (.long j2), .second, .val (.long j3), .second, .val (.long j4), .second, .val (.long j5), .second, .val (.int i6)] [])) _
    refine XS.lload X1.here hx rfl (hb hby d3_86) rfl ?_
    show Steps p.tables e below (T1.setTop (mkF m 88 #[.val (.ref r0), .val (.int i1), .val (.long j2), .second, .val (.long j3), .second, .val (.long j4), .second, .val (.long j5), .second, .val (.int i6)] [(.long j5)])) _
    refine XS.lconst X1.here hx rfl (hb hby d3_88) ?_
    show Steps p.tables e below (T1.setTop (mkF m 89 #[.val (.ref r0), .val (.int i1), .val (.long j2), .second, .val (.long j3), .second, .val (.long j4), .second, .val (.long j5), .second, .val (.int i6)] [(.long (0 : Int64)), (.long j5)])) _
    refine XS.lcmp X1.here hx rfl (hb hby d3_89) rfl ?_
    show Steps p.tables e below (T1.setTop (mkF m 90 #[.val (.ref r0), .val (.int i1), .val (.long j2), .second, .val (.long j3), .second, .val (.long j4), .second, .val (.long j5), .second, .val (.int i6)] [(.int (lcmpW j5 (0 : Int64)))])) _
    refine XS.ifYes X1.here hx rfl (pc0 := 90) (pc' := 108) rfl (hb hby d3_90) rfl ((if0 _ _).trans (flt (mt (lw_lt j5 (0 : Int64)).mp hp90_4)).2.1) (by decide) (by decide) ?_
    show Steps p.tables e below (T1.setTop (mkF m 108 #[.val (.ref r0), .val (.int i1), .val (.long j2), .second, .val (.long j3), .second, .val (.long j4), .second, .val (.long j5), .second, .val (.int i6)] [])) _
    refine XS.aloadN X1.here hx rfl (hb hby d3_108) rfl rfl ?_
    show Steps p.tables e below (T1.setTop (mkF m 109 #[.val (.ref r0), .val (.int i1), .val (.long j2), .second, .val (.long j3), .second, .val (.long j4), .second, .val (.long j5), .second, .val (.int i6)] [(.ref r0)])) _
    refine XS.iloadN X1.here hx rfl (hb hby d3_109) rfl ?_
    show Steps p.tables e below (T1.setTop (mkF m 110 #[.val (.ref r0), .val (.int i1), .val (.long j2), .second, .val (.long j3), .second, .val (.long j4), .second, .val (.long j5), .second, .val (.int i6)] [(.int i1), (.ref r0)])) _
    refine st8 _ ?_
    show Steps p.tables e below (T8.setTop (mkF m 113 #[.val (.ref r0), .val (.int i1), .val (.long j2), .second, .val (.long j3), .second, .val (.long j4), .second, .val (.long j5), .second, .val (.int i6)] [])) _
    refine XS.aloadN X8.here hx rfl (hb hby d3_113) rfl rfl ?_
    show Steps p.tables e below (T8.setTop (mkF m 114 #[.val (.ref r0), .val (.int i1), .val (.long j2), .second, .val (.long j3), .second, .val (.long j4), .second, .val (.long j5), .second, .val (.int i6)] [(.ref r0)])) _
    refine XS.lloadN X8.here hx rfl (hb hby d3_114) rfl ?_
    show Steps p.tables e below (T8.setTop (mkF m 115 #[.val (.ref r0), .val (.int i1), .val (.long j2), .second, .val (.long j3), .second, .val (.long j4), .second, .val (.long j5), .second, .val (.int i6)] [(.long j2), (.ref r0)])) _
    refine st12 _ ?_
    show Steps p.tables e below (T12.setTop (mkF m 118 #[.val (.ref r0), .val (.int i1), .val (.long j2), .second, .val (.long j3), .second, .val (.long j4), .second, .val (.long j5), .second, .val (.int i6)] [])) _
    refine XS.aloadN X12.here hx rfl (hb hby d3_118) rfl rfl ?_
    show Steps p.tables e below (T12.setTop (mkF m 119 #[.val (.ref r0), .val (.int i1), .val (.long j2), .second, .val (.long j3), .second, .val (.long j4), .second, .val (.long j5), .second, .val (.int i6)] [(.ref r0)])) _
    refine XS.lload X12.here hx rfl (hb hby d3_119) rfl ?_
    show Steps p.tables e below (T12.setTop (mkF m 121 #[.val (.ref r0), .val (.int i1), .val (.long j2), .second, .val (.long j3), .second, .val (.long j4), .second, .val (.long j5), .second, .val (.int i6)] [(.long j3), (.ref r0)])) _
    refine st16 _ ?_
    show Steps p.tables e below (T16.setTop (mkF m 124 #[.val (.ref r0), .val (.int i1), .val (.long j2), .second, .val (.long j3), .second, .val (.long j4), .second, .val (.long j5), .second, .val (.int i6)] [])) _
    refine XS.aloadN X16.here hx rfl (hb hby d3_124) rfl rfl ?_
    show Steps p.tables e below (T16.setTop (mkF m 125 #[.val (.ref r0), .val (.int i1), .val (.long j2), .second, .val (.long j3), .second, .val (.long j4), .second, .val (.long j5), .second, .val (.int i6)] [(.ref r0)])) _
    refine XS.lload X16.here hx rfl (hb hby d3_125) rfl ?_
    show Steps p.tables e below (T16.setTop (mkF m 127 #[.val (.ref r0), .val (.int i1), .val (.long j2), .second, .val (.long j3), .second, .val (.long j4), .second, .val (.long j5), .second, .val (.int i6)] [(.long j4), (.ref r0)])) _
    refine st20 _ ?_
    show Steps p.tables e below (T20.setTop (mkF m 130 #[.val (.ref r0), .val (.int i1), .val (.long j2), .second, .val (.long j3), .second, .val (.long j4), .second, .val (.long j5), .second, .val (.int i6)] [])) _
    refine XS.aloadN X20.here hx rfl (hb hby d3_130) rfl rfl ?_
    show Steps p.tables e below (T20.setTop (mkF m 131 #[.val (.ref r0), .val (.int i1), .val (.long j2), .second, .val (.long j3), .second, .val (.long j4), .second, .val (.long j5), .second, .val (.int i6)] [(.ref r0)])) _
    refine XS.lload X20.here hx rfl (hb hby d3_131) rfl ?_
    show Steps p.tables e below (T20.setTop (mkF m 133 #[.val (.ref r0), .val (.int i1), .val (.long j2), .second, .val (.long j3), .second, .val (.long j4), .second, .val (.long j5), .second, .val (.int i6)] [(.long j5), (.ref r0)])) _
    refine st24 _ ?_
    show Steps p.tables e below (T24.setTop (mkF m 136 #[.val (.ref r0), .val (.int i1), .val (.long j2), .second, .val (.long j3), .second, .val (.long j4), .second, .val (.long j5), .second, .val (.int i6)] [])) _
    refine XS.aloadN X24.here hx rfl (hb hby d3_136) rfl rfl ?_
    show Steps p.tables e below (T24.setTop (mkF m 137 #[.val (.ref r0), .val (.int i1), .val (.long j2), .second, .val (.long j3), .second, .val (.long j4), .second, .val (.long j5), .second, .val (.int i6)] [(.ref r0)])) _
    refine XS.iload X24.here hx rfl (hb hby d3_137) rfl ?_
    show Steps p.tables e below (T24.setTop (mkF m 139 #[.val (.ref r0), .val (.int i1), .val (.long j2), .second, .val (.long j3), .second, .val (.long j4), .second, .val (.long j5), .second, .val (.int i6)] [(.int i6), (.ref r0)])) _
    refine st28 _ ?_
    exact k
  have f31 := (f26.wr W28)
  have f32 := (((((F8.other W12 (Or.inr (slot_ne (Or.inr (hw _ (List.mem_of_getElem? (i := 25) rfl))) (Or.inr (hw _ (List.mem_of_getElem? (i := 27) rfl))) (by decide) (t := .boolean) (t' := .long) (by decide) (by decide)))).other W16 (Or.inr (slot_ne (Or.inr (hw _ (List.mem_of_getElem? (i := 25) rfl))) (Or.inr (hw _ (List.mem_of_getElem? (i := 29) rfl))) (by decide) (t := .boolean) (t' := .long) (by decide) (by decide)))).other W20 (Or.inr (slot_ne (Or.inr (hw _ (List.mem_of_getElem? (i := 25) rfl))) (Or.inr (hw _ (List.mem_of_getElem? (i := 31) rfl))) (by decide) (t := .boolean) (t' := .long) (by decide) (by decide)))).other W24 (Or.inr (slot_ne (Or.inr (hw _ (List.mem_of_getElem? (i := 25) rfl))) (Or.inr (hw _ (List.mem_of_getElem? (i := 33) rfl))) (by decide) (t := .boolean) (t' := .long) (by decide) (by decide)))).other W28 (Or.inr (slot_ne (Or.inr (hw _ (List.mem_of_getElem? (i := 25) rfl))) (Or.inr (hw _ (List.mem_of_getElem? (i := 35) rfl))) (by decide) (t := .boolean) (t' := .boolean) (by decide) (by decide))))
  have f33 := ((((F12.other W16 (Or.inr (slot_ne (Or.inr (hw _ (List.mem_of_getElem? (i := 27) rfl))) (Or.inr (hw _ (List.mem_of_getElem? (i := 29) rfl))) (by decide) (t := .long) (t' := .long) (by decide) (by decide)))).other W20 (Or.inr (slot_ne (Or.inr (hw _ (List.mem_of_getElem? (i := 27) rfl))) (Or.inr (hw _ (List.mem_of_getElem? (i := 31) rfl))) (by decide) (t := .long) (t' := .long) (by decide) (by decide)))).other W24 (Or.inr (slot_ne (Or.inr (hw _ (List.mem_of_getElem? (i := 27) rfl))) (Or.inr (hw _ (List.mem_of_getElem? (i := 33) rfl))) (by decide) (t := .long) (t' := .long) (by decide) (by decide)))).other W28 (Or.inr (slot_ne (Or.inr (hw _ (List.mem_of_getElem? (i := 27) rfl))) (Or.inr (hw _ (List.mem_of_getElem? (i := 35) rfl))) (by decide) (t := .long) (t' := .boolean) (by decide) (by decide))))
  have f34 := (((F16.other W20 (Or.inr (slot_ne (Or.inr (hw _ (List.mem_of_getElem? (i := 29) rfl))) (Or.inr (hw _ (List.mem_of_getElem? (i := 31) rfl))) (by decide) (t := .long) (t' := .long) (by decide) (by decide)))).other W24 (Or.inr (slot_ne (Or.inr (hw _ (List.mem_of_getElem? (i := 29) rfl))) (Or.inr (hw _ (List.mem_of_getElem? (i := 33) rfl))) (by decide) (t := .long) (t' := .long) (by decide) (by decide)))).other W28 (Or.inr (slot_ne (Or.inr (hw _ (List.mem_of_getElem? (i := 29) rfl))) (Or.inr (hw _ (List.mem_of_getElem? (i := 35) rfl))) (by decide) (t := .long) (t' := .boolean) (by decide) (by decide))))
  have f35 := ((F20.other W24 (Or.inr (slot_ne (Or.inr (hw _ (List.mem_of_getElem? (i := 31) rfl))) (Or.inr (hw _ (List.mem_of_getElem? (i := 33) rfl))) (by decide) (t := .long) (t' := .long) (by decide) (by decide)))).other W28 (Or.inr (slot_ne (Or.inr (hw _ (List.mem_of_getElem? (i := 31) rfl))) (Or.inr (hw _ (List.mem_of_getElem? (i := 35) rfl))) (by decide) (t := .long) (t' := .boolean) (by decide) (by decide))))
  have f36 := (F24.other W28 (Or.inr (slot_ne (Or.inr (hw _ (List.mem_of_getElem? (i := 33) rfl))) (Or.inr (hw _ (List.mem_of_getElem? (i := 35) rfl))) (by decide) (t := .long) (t' := .boolean) (by decide) (by decide))))
  obtain ⟨fs, hr, hrun, hended, hW, hsame⟩ := X28.leave (v := none) (fun _ => rfl)
  refine ⟨_, _, pre30 _ ?_, hrun, hended, _, _, rfl, ?_, ⟨_, rfl⟩, hW, hsame.mono (by decide) (by decide)⟩
  · show Steps p.tables e below (T28.setTop (mkF m 142 #[.val (.ref r0), .val (.int i1), .val (.long j2), .second, .val (.long j3), .second, .val (.long j4), .second, .val (.long j5), .second, .val (.int i6)] [])) _
    exact X28.returnOut hx Bd.returns (hb hby d3_142) hr
  · show Q3 Z r0 i1 j2 j3 j4 j5 i6 u_allowed_r0 u_limit_r0 u_remaining_r0 u_retryAfterMillis_r0 u_resetAfterMillis_r0 u_degraded_r0 h0 n0 _ T28.heap _
    rw [e28]
    exact ⟨rfl, N28, K29, f31, f32, f33, f34, f35, f36, F28⟩
def Q6 (Z : State) (r0 : Addr) (w_allowed_r0 : Int32) (w_limit_r0 : Int64) (w_remaining_r0 : Int64) (w_retryAfterMillis_r0 : Int64) (w_resetAfterMillis_r0 : Int64) (h0 : Heap) (n0 : Nat) (v : Option Value) (h : Heap) (L : List Loc) : Prop := ∃ (b1 : Addr), v = some (.ref b1) ∧ Fr n0 L ∧ Keep h0 h [] ∧ h0.size ≤ b1 ∧ Exa Z h b1 "com/example/burst/burst/Decision" ∧ Fld Z h b1 "com/example/burst/burst/Decision" "allowed" "Z" (.int (nar .boolean w_allowed_r0)) ∧ Fld Z h b1 "com/example/burst/burst/Decision" "limit" "J" (.long w_limit_r0) ∧ Fld Z h b1 "com/example/burst/burst/Decision" "remaining" "J" (.long w_remaining_r0) ∧ Fld Z h b1 "com/example/burst/burst/Decision" "retryAfterMillis" "J" (.long w_retryAfterMillis_r0) ∧ Fld Z h b1 "com/example/burst/burst/Decision" "resetAfterMillis" "J" (.long w_resetAfterMillis_r0) ∧ Fld Z h b1 "com/example/burst/burst/Decision" "degraded" "Z" (.int (nar .boolean (1 : Int32)))
theorem ef_6 (m : MethodId) (x0 : Addr) : entryFrame m #[(.ref x0)] 1 = mkF m 0 #[.val (.ref x0)] [] := by first | (simp [entryFrame, mkF, argsToLocals, Value.category]; done) | rfl
set_option maxRecDepth 65536 in
set_option maxHeartbeats 40000000 in
theorem rm6 (l : Launch) (Z : State) (a0 : Array Value) (hw : ∀ d ∈ tables_1, d.before a0 Z = true) (ws : List Jvm.Cond) (r0 : Addr) (w_allowed_r0 : Int32) (w_limit_r0 : Int64) (w_remaining_r0 : Int64) (w_retryAfterMillis_r0 : Int64) (w_resetAfterMillis_r0 : Int64) (h0 : Heap) (n0 : Nat) (Z0 : n0 ≤ h0.size) (F_allowed_r0 : Fld Z h0 r0 "com/example/burst/burst/Decision" "allowed" "Z" (.int w_allowed_r0)) (F_limit_r0 : Fld Z h0 r0 "com/example/burst/burst/Decision" "limit" "J" (.long w_limit_r0)) (F_remaining_r0 : Fld Z h0 r0 "com/example/burst/burst/Decision" "remaining" "J" (.long w_remaining_r0)) (F_retryAfterMillis_r0 : Fld Z h0 r0 "com/example/burst/burst/Decision" "retryAfterMillis" "J" (.long w_retryAfterMillis_r0)) (F_resetAfterMillis_r0 : Fld Z h0 r0 "com/example/burst/burst/Decision" "resetAfterMillis" "J" (.long w_resetAfterMillis_r0)) (hp25_0 : ¬ (w_remaining_r0 < (0 : Int64))) (hp25_1 : ¬ (w_limit_r0 < w_remaining_r0)) (hp25_2 : ¬ (w_retryAfterMillis_r0 < (-1 : Int64))) (hp25_3 : (¬ (w_allowed_r0 = (0 : Int32)) → w_retryAfterMillis_r0 = (-1 : Int64))) (hp25_4 : ¬ (w_resetAfterMillis_r0 < (0 : Int64))) :
    MetFree l (⟨"com/example/burst/burst/Decision", "asDegraded", "()Lcom/example/burst/burst/Decision;"⟩ : MethodName) (head1 (Jvm.Cond.code (⟨"com/example/burst/burst/Decision", "asDegraded", "()Lcom/example/burst/burst/Decision;"⟩ : MethodName) prog_3_method_5_code 1 (some (.object "com/example/burst/burst/Decision")) :: ws) ({ frames := 3, cells := 1, slots := 6, locals := 47 } : Room)) (fun a U => a = #[(.ref r0)] ∧ Z.Warmed39 U.vm ∧ U.heap = h0) (fun _ _ _ _ _ => True) (fun _ U o U' => ∃ v L, o = .returned v ∧ Q6 Z r0 w_allowed_r0 w_limit_r0 w_remaining_r0 w_retryAfterMillis_r0 w_resetAfterMillis_r0 h0 n0 v U'.heap L ∧ FrameEnd U o U' L ({ frames := 3, cells := 1, slots := 6, locals := 47 } : Room).cells ({ frames := 3, cells := 1, slots := 6, locals := 47 } : Room).slots) := by
  refine MetFree.of_bodySF (plainFor_of_name pn_1) hisR ?_
  intro p e s m args below meth c s₁ Bd hml0 hP hK
  obtain ⟨rfl, hZ, hh⟩ := hP
  have hx := Bd.exec
  have hby := Bd.bytes
  have hml : c.maxLocals = 1 := hml0
  have hown : s.vm.findClass "com/example/burst/burst/Decision" = some m.cls := findClass_of_methodNamed Bd.named
  have hnm := (name_of_methodNamed Bd.named Bd.method).1
  have X0 : Stand p l e ({ frames := 3, cells := 1, slots := 6, locals := 47 } : Room) s m #[(.ref r0)] below meth c s₁ [] 0 0 := Stand.of_body Bd
  have e0 : s₁.heap = h0 := by rw [← hh, Bd.state]; rfl
  have N0 := Fr.nil n0
  have pre0 : ∀ t, Steps p.tables e below (s₁.setTop (mkF m 0 #[.val (.ref r0)] [])) t → Steps p.tables e below (s₁.setTop (entryFrame m #[(.ref r0)] 1)) t := fun t k => castTop (ef_6 m r0) k
  obtain ⟨T1, h1, X1, e1, E1, A1, D1, -, st1⟩ := newO X0 hx hZ hown (hw _ (List.mem_of_getElem? (i := 41) rfl)) (hw _ (List.mem_of_getElem? (i := 10) rfl)) (hw _ (List.mem_of_getElem? (i := 11) rfl)) e0 (g := (mkF m 0 #[.val (.ref r0)] [])) rfl (hb hby d6_0) (by decide) (by decide)
  obtain ⟨b1, g1⟩ : ∃ z, z = h0.size := ⟨_, rfl⟩
  rw [← g1] at A1 D1 st1
  have sz_b1 : h0.size ≤ b1 := Nat.le_trans (Keep.refl h0 []).1 (Nat.le_of_eq g1.symm)
  have K2 : Keep h0 h1 [] := (Keep.refl h0 []).ext E1
  have Fallowed_1 : Fld Z h1 b1 "com/example/burst/burst/Decision" "allowed" "Z" (.int (0 : Int32)) := D1 (Or.inr (hw _ (List.mem_of_getElem? (i := 25) rfl))) (ty := .boolean) (by decide)
  have Flimit_1 : Fld Z h1 b1 "com/example/burst/burst/Decision" "limit" "J" (.long (0 : Int64)) := D1 (Or.inr (hw _ (List.mem_of_getElem? (i := 27) rfl))) (ty := .long) (by decide)
  have Fremaining_1 : Fld Z h1 b1 "com/example/burst/burst/Decision" "remaining" "J" (.long (0 : Int64)) := D1 (Or.inr (hw _ (List.mem_of_getElem? (i := 29) rfl))) (ty := .long) (by decide)
  have FretryAfterMillis_1 : Fld Z h1 b1 "com/example/burst/burst/Decision" "retryAfterMillis" "J" (.long (0 : Int64)) := D1 (Or.inr (hw _ (List.mem_of_getElem? (i := 31) rfl))) (ty := .long) (by decide)
  have FresetAfterMillis_1 : Fld Z h1 b1 "com/example/burst/burst/Decision" "resetAfterMillis" "J" (.long (0 : Int64)) := D1 (Or.inr (hw _ (List.mem_of_getElem? (i := 33) rfl))) (ty := .long) (by decide)
  have Fdegraded_1 : Fld Z h1 b1 "com/example/burst/burst/Decision" "degraded" "Z" (.int (0 : Int32)) := D1 (Or.inr (hw _ (List.mem_of_getElem? (i := 35) rfl))) (ty := .boolean) (by decide)
  have f3 := (F_allowed_r0.ext E1)
  obtain ⟨T4, X4, e4, st4⟩ := getF X1 hx hZ hown (host := "") (Or.inl (hw _ (List.mem_of_getElem? (i := 24) rfl))) Via.refl e1 f3 (g := (mkF m 5 #[.val (.ref r0)] [(.ref r0), (.ref b1), (.ref b1)])) rfl rfl (hb hby d6_5)
  have f5 := (F_limit_r0.ext E1)
  obtain ⟨T6, X6, e6, st6⟩ := getF X4 hx hZ hown (host := "") (Or.inl (hw _ (List.mem_of_getElem? (i := 26) rfl))) Via.refl e4 f5 (g := (mkF m 9 #[.val (.ref r0)] [(.ref r0), (.int w_allowed_r0), (.ref b1), (.ref b1)])) rfl rfl (hb hby d6_9)
  have f7 := (F_remaining_r0.ext E1)
  obtain ⟨T8, X8, e8, st8⟩ := getF X6 hx hZ hown (host := "") (Or.inl (hw _ (List.mem_of_getElem? (i := 28) rfl))) Via.refl e6 f7 (g := (mkF m 13 #[.val (.ref r0)] [(.ref r0), (.long w_limit_r0), (.int w_allowed_r0), (.ref b1), (.ref b1)])) rfl rfl (hb hby d6_13)
  have f9 := (F_retryAfterMillis_r0.ext E1)
  obtain ⟨T10, X10, e10, st10⟩ := getF X8 hx hZ hown (host := "") (Or.inl (hw _ (List.mem_of_getElem? (i := 30) rfl))) Via.refl e8 f9 (g := (mkF m 17 #[.val (.ref r0)] [(.ref r0), (.long w_remaining_r0), (.long w_limit_r0), (.int w_allowed_r0), (.ref b1), (.ref b1)])) rfl rfl (hb hby d6_17)
  have f11 := (F_resetAfterMillis_r0.ext E1)
  obtain ⟨T12, X12, e12, st12⟩ := getF X10 hx hZ hown (host := "") (Or.inl (hw _ (List.mem_of_getElem? (i := 32) rfl))) Via.refl e10 f11 (g := (mkF m 21 #[.val (.ref r0)] [(.ref r0), (.long w_retryAfterMillis_r0), (.long w_remaining_r0), (.long w_limit_r0), (.int w_allowed_r0), (.ref b1), (.ref b1)])) rfl rfl (hb hby d6_21)
  obtain ⟨_, _, ⟨T13, L13, k13, n13⟩, -, X13, ⟨Lc13, hQ13, l13, y13, z13⟩, st13⟩ := X12.specialBack hx (y := (⟨"com/example/burst/burst/Decision", "<init>", "(ZJJJJZ)V"⟩ : MethodName)) rfl hown (mvT hZ (hw _ (List.mem_of_getElem? (i := 42) rfl))) (mvT hZ (hw _ (List.mem_of_getElem? (i := 13) rfl))) (mvT hZ (hw _ (List.mem_of_getElem? (i := 14) rfl))) (by decide) (backOf (W := 1) (rm3 l Z a0 hw [] b1 w_allowed_r0 w_limit_r0 w_remaining_r0 w_retryAfterMillis_r0 w_resetAfterMillis_r0 (1 : Int32) (.int (0 : Int32)) (.long (0 : Int64)) (.long (0 : Int64)) (.long (0 : Int64)) (.long (0 : Int64)) (.int (0 : Int32)) h1 n0 (Nat.le_trans Z0 K2.1) hp25_0 hp25_1 hp25_2 hp25_3 hp25_4 A1 Fallowed_1 (Nat.le_trans Z0 sz_b1) Flimit_1 Fremaining_1 FretryAfterMillis_1 FresetAfterMillis_1 Fdegraded_1) hZ (hw _ (List.mem_of_getElem? (i := 14) rfl)) (hw _ (List.mem_of_getElem? (i := 11) rfl)) (by decide) (by decide)) (g := (mkF m 25 #[.val (.ref r0)] [(.int (1 : Int32)), (.long w_resetAfterMillis_r0), (.long w_retryAfterMillis_r0), (.long w_remaining_r0), (.long w_limit_r0), (.int w_allowed_r0), (.ref b1), (.ref b1)])) rfl (by rw [hml]; rfl) (Steps.refl _) (a := b1) (argsL := [(.int w_allowed_r0), (.long w_limit_r0), (.long w_remaining_r0), (.long w_retryAfterMillis_r0), (.long w_resetAfterMillis_r0), (.int (1 : Int32))]) (rest := [(.ref b1)]) (lenOf pd_2 rfl) rfl (by show 2 * 0 + _ ≤ _; exact Nat.le_of_eq rfl) (hb hby d6_25) (fun _ _ => ⟨rfl, e12, (by decide : 1 + 0 ≤ _), (by decide : 6 + 0 ≤ _)⟩)
  dsimp only [Pt.U, Pt.locs, Pt.cells, Pt.slots] at X13 l13 y13 z13 st13 hQ13
  subst l13 y13 z13
  obtain ⟨rfl, Nq13, Kq13, f13_0, f13_1, f13_2, f13_3, f13_4, f13_5, f13_6⟩ := hQ13
  have K14 : Keep h0 T13.heap [] := K2.trans Kq13 (allS (Or.inr sz_b1) all0)
  have N13 := Fr.app N0 Nq13
  have pre15 : ∀ t, Steps p.tables e below (T13.setTop (mkF m 28 #[.val (.ref r0)] [(.ref b1)])) t → Steps p.tables e below (s₁.setTop (entryFrame m #[(.ref r0)] 1)) t := by
    intro t k
    refine pre0 _ ?_
    show Steps p.tables e below (s₁.setTop (mkF m 0 #[.val (.ref r0)] [])) _
    refine st1 _ ?_
    show Steps p.tables e below (T1.setTop (mkF m 3 #[.val (.ref r0)] [(.ref b1)])) _
    refine XS.dup X1.here hx rfl (hb hby d6_3) rfl rfl ?_
    show Steps p.tables e below (T1.setTop (mkF m 4 #[.val (.ref r0)] [(.ref b1), (.ref b1)])) _
    refine XS.aloadN X1.here hx rfl (hb hby d6_4) rfl rfl ?_
    show Steps p.tables e below (T1.setTop (mkF m 5 #[.val (.ref r0)] [(.ref r0), (.ref b1), (.ref b1)])) _
    refine st4 _ ?_
    show Steps p.tables e below (T4.setTop (mkF m 8 #[.val (.ref r0)] [(.int w_allowed_r0), (.ref b1), (.ref b1)])) _
    refine XS.aloadN X4.here hx rfl (hb hby d6_8) rfl rfl ?_
    show Steps p.tables e below (T4.setTop (mkF m 9 #[.val (.ref r0)] [(.ref r0), (.int w_allowed_r0), (.ref b1), (.ref b1)])) _
    refine st6 _ ?_
    show Steps p.tables e below (T6.setTop (mkF m 12 #[.val (.ref r0)] [(.long w_limit_r0), (.int w_allowed_r0), (.ref b1), (.ref b1)])) _
    refine XS.aloadN X6.here hx rfl (hb hby d6_12) rfl rfl ?_
    show Steps p.tables e below (T6.setTop (mkF m 13 #[.val (.ref r0)] [(.ref r0), (.long w_limit_r0), (.int w_allowed_r0), (.ref b1), (.ref b1)])) _
    refine st8 _ ?_
    show Steps p.tables e below (T8.setTop (mkF m 16 #[.val (.ref r0)] [(.long w_remaining_r0), (.long w_limit_r0), (.int w_allowed_r0), (.ref b1), (.ref b1)])) _
    refine XS.aloadN X8.here hx rfl (hb hby d6_16) rfl rfl ?_
    show Steps p.tables e below (T8.setTop (mkF m 17 #[.val (.ref r0)] [(.ref r0), (.long w_remaining_r0), (.long w_limit_r0), (.int w_allowed_r0), (.ref b1), (.ref b1)])) _
    refine st10 _ ?_
    show Steps p.tables e below (T10.setTop (mkF m 20 #[.val (.ref r0)] [(.long w_retryAfterMillis_r0), (.long w_remaining_r0), (.long w_limit_r0), (.int w_allowed_r0), (.ref b1), (.ref b1)])) _
    refine XS.aloadN X10.here hx rfl (hb hby d6_20) rfl rfl ?_
    show Steps p.tables e below (T10.setTop (mkF m 21 #[.val (.ref r0)] [(.ref r0), (.long w_retryAfterMillis_r0), (.long w_remaining_r0), (.long w_limit_r0), (.int w_allowed_r0), (.ref b1), (.ref b1)])) _
    refine st12 _ ?_
    show Steps p.tables e below (T12.setTop (mkF m 24 #[.val (.ref r0)] [(.long w_resetAfterMillis_r0), (.long w_retryAfterMillis_r0), (.long w_remaining_r0), (.long w_limit_r0), (.int w_allowed_r0), (.ref b1), (.ref b1)])) _
    refine XS.iconst X12.here hx rfl (hb hby d6_24) ?_
    show Steps p.tables e below (T12.setTop (mkF m 25 #[.val (.ref r0)] [(.int (1 : Int32)), (.long w_resetAfterMillis_r0), (.long w_retryAfterMillis_r0), (.long w_remaining_r0), (.long w_limit_r0), (.int w_allowed_r0), (.ref b1), (.ref b1)])) _
    refine st13.trans ?_
    exact k
  obtain ⟨fs, hr, hrun, hended, hW, hsame⟩ := X13.leave (v := some (.ref b1)) (fun h => by rw [Bd.returns] at h; cases h)
  refine ⟨_, _, pre15 _ ?_, hrun, hended, _, _, rfl, ?_, ⟨_, rfl⟩, hW, hsame.mono (by decide) (by decide)⟩
  · show Steps p.tables e below (T13.setTop (mkF m 28 #[.val (.ref r0)] [(.ref b1)])) _
    jvm_step X13.here [X13.here.top, hx, (hb hby d6_28), X13.method', Bd.returns, Value.isRef, FieldType.isReference]
    first | (intro acts; rw [hr _ acts rfl rfl rfl]) | rw [hr _ _ rfl rfl rfl]
    exact Steps.refl _
  · show Q6 Z r0 w_allowed_r0 w_limit_r0 w_remaining_r0 w_retryAfterMillis_r0 w_resetAfterMillis_r0 h0 n0 _ T13.heap _
    exact ⟨b1, rfl, N13, K14, sz_b1, f13_0, f13_1, f13_2, f13_3, f13_4, f13_5, f13_6⟩
def Q7 (Z : State) (r0 : Addr) (w_allowed_r0 : Int32) (h0 : Heap) (n0 : Nat) (v : Option Value) (h : Heap) (L : List Loc) : Prop := v = some (.int (nar .boolean w_allowed_r0)) ∧ Fr n0 L ∧ h = h0
theorem ef_7 (m : MethodId) (x0 : Addr) : entryFrame m #[(.ref x0)] 1 = mkF m 0 #[.val (.ref x0)] [] := by first | (simp [entryFrame, mkF, argsToLocals, Value.category]; done) | rfl
set_option maxRecDepth 65536 in
set_option maxHeartbeats 40000000 in
theorem rm7 (l : Launch) (Z : State) (a0 : Array Value) (hw : ∀ d ∈ tables_1, d.before a0 Z = true) (ws : List Jvm.Cond) (r0 : Addr) (w_allowed_r0 : Int32) (h0 : Heap) (n0 : Nat) (Z0 : n0 ≤ h0.size) (F_allowed_r0 : Fld Z h0 r0 "com/example/burst/burst/Decision" "allowed" "Z" (.int w_allowed_r0)) :
    MetFree l (⟨"com/example/burst/burst/Decision", "allowed", "()Z"⟩ : MethodName) (head1 (Jvm.Cond.code (⟨"com/example/burst/burst/Decision", "allowed", "()Z"⟩ : MethodName) prog_3_method_10_code 1 (some .boolean) :: ws) ({ frames := 0, cells := 0, slots := 0, locals := 0 } : Room)) (fun a U => a = #[(.ref r0)] ∧ Z.Warmed39 U.vm ∧ U.heap = h0) (fun _ _ _ _ _ => True) (fun _ U o U' => ∃ v L, o = .returned v ∧ Q7 Z r0 w_allowed_r0 h0 n0 v U'.heap L ∧ FrameEnd U o U' L ({ frames := 0, cells := 0, slots := 0, locals := 0 } : Room).cells ({ frames := 0, cells := 0, slots := 0, locals := 0 } : Room).slots) := by
  refine MetFree.of_bodySF (plainFor_of_name pn_1) hisR ?_
  intro p e s m args below meth c s₁ Bd hml0 hP hK
  obtain ⟨rfl, hZ, hh⟩ := hP
  have hx := Bd.exec
  have hby := Bd.bytes
  have hml : c.maxLocals = 1 := hml0
  have hown : s.vm.findClass "com/example/burst/burst/Decision" = some m.cls := findClass_of_methodNamed Bd.named
  have hnm := (name_of_methodNamed Bd.named Bd.method).1
  have X0 : Stand p l e ({ frames := 0, cells := 0, slots := 0, locals := 0 } : Room) s m #[(.ref r0)] below meth c s₁ [] 0 0 := Stand.of_body Bd
  have e0 : s₁.heap = h0 := by rw [← hh, Bd.state]; rfl
  have N0 := Fr.nil n0
  have pre0 : ∀ t, Steps p.tables e below (s₁.setTop (mkF m 0 #[.val (.ref r0)] [])) t → Steps p.tables e below (s₁.setTop (entryFrame m #[(.ref r0)] 1)) t := fun t k => castTop (ef_7 m r0) k
  obtain ⟨T1, X1, e1, st1⟩ := getF X0 hx hZ hown (host := "") (Or.inl (hw _ (List.mem_of_getElem? (i := 24) rfl))) Via.refl e0 F_allowed_r0 (g := (mkF m 1 #[.val (.ref r0)] [(.ref r0)])) rfl rfl (hb hby d7_1)
  have pre2 : ∀ t, Steps p.tables e below (T1.setTop (mkF m 4 #[.val (.ref r0)] [(.int w_allowed_r0)])) t → Steps p.tables e below (s₁.setTop (entryFrame m #[(.ref r0)] 1)) t := by
    intro t k
    refine pre0 _ ?_
    show Steps p.tables e below (s₁.setTop (mkF m 0 #[.val (.ref r0)] [])) _
    refine XS.aloadN X0.here hx rfl (hb hby d7_0) rfl rfl ?_
    show Steps p.tables e below (s₁.setTop (mkF m 1 #[.val (.ref r0)] [(.ref r0)])) _
    refine st1 _ ?_
    exact k
  obtain ⟨fs, hr, hrun, hended, hW, hsame⟩ := X1.leave (v := some (.int (nar .boolean w_allowed_r0))) (fun h => by rw [Bd.returns] at h; cases h)
  refine ⟨_, _, pre2 _ ?_, hrun, hended, _, _, rfl, ?_, ⟨_, rfl⟩, hW, hsame.mono (by decide) (by decide)⟩
  · show Steps p.tables e below (T1.setTop (mkF m 4 #[.val (.ref r0)] [(.int w_allowed_r0)])) _
    exact retN X1 hx (t := .boolean) Bd.returns (by simp) (hb hby d7_4) hr
  · show Q7 Z r0 w_allowed_r0 h0 n0 _ T1.heap _
    rw [e1]
    exact ⟨rfl, N0, rfl⟩
def Q8 (Z : State) (r0 : Addr) (w_limit_r0 : Int64) (h0 : Heap) (n0 : Nat) (v : Option Value) (h : Heap) (L : List Loc) : Prop := v = some (.long w_limit_r0) ∧ Fr n0 L ∧ h = h0
theorem ef_8 (m : MethodId) (x0 : Addr) : entryFrame m #[(.ref x0)] 1 = mkF m 0 #[.val (.ref x0)] [] := by first | (simp [entryFrame, mkF, argsToLocals, Value.category]; done) | rfl
set_option maxRecDepth 65536 in
set_option maxHeartbeats 40000000 in
theorem rm8 (l : Launch) (Z : State) (a0 : Array Value) (hw : ∀ d ∈ tables_1, d.before a0 Z = true) (ws : List Jvm.Cond) (r0 : Addr) (w_limit_r0 : Int64) (h0 : Heap) (n0 : Nat) (Z0 : n0 ≤ h0.size) (F_limit_r0 : Fld Z h0 r0 "com/example/burst/burst/Decision" "limit" "J" (.long w_limit_r0)) :
    MetFree l (⟨"com/example/burst/burst/Decision", "limit", "()J"⟩ : MethodName) (head1 (Jvm.Cond.code (⟨"com/example/burst/burst/Decision", "limit", "()J"⟩ : MethodName) prog_3_method_11_code 1 (some .long) :: ws) ({ frames := 0, cells := 0, slots := 0, locals := 0 } : Room)) (fun a U => a = #[(.ref r0)] ∧ Z.Warmed39 U.vm ∧ U.heap = h0) (fun _ _ _ _ _ => True) (fun _ U o U' => ∃ v L, o = .returned v ∧ Q8 Z r0 w_limit_r0 h0 n0 v U'.heap L ∧ FrameEnd U o U' L ({ frames := 0, cells := 0, slots := 0, locals := 0 } : Room).cells ({ frames := 0, cells := 0, slots := 0, locals := 0 } : Room).slots) := by
  refine MetFree.of_bodySF (plainFor_of_name pn_1) hisR ?_
  intro p e s m args below meth c s₁ Bd hml0 hP hK
  obtain ⟨rfl, hZ, hh⟩ := hP
  have hx := Bd.exec
  have hby := Bd.bytes
  have hml : c.maxLocals = 1 := hml0
  have hown : s.vm.findClass "com/example/burst/burst/Decision" = some m.cls := findClass_of_methodNamed Bd.named
  have hnm := (name_of_methodNamed Bd.named Bd.method).1
  have X0 : Stand p l e ({ frames := 0, cells := 0, slots := 0, locals := 0 } : Room) s m #[(.ref r0)] below meth c s₁ [] 0 0 := Stand.of_body Bd
  have e0 : s₁.heap = h0 := by rw [← hh, Bd.state]; rfl
  have N0 := Fr.nil n0
  have pre0 : ∀ t, Steps p.tables e below (s₁.setTop (mkF m 0 #[.val (.ref r0)] [])) t → Steps p.tables e below (s₁.setTop (entryFrame m #[(.ref r0)] 1)) t := fun t k => castTop (ef_8 m r0) k
  obtain ⟨T1, X1, e1, st1⟩ := getF X0 hx hZ hown (host := "") (Or.inl (hw _ (List.mem_of_getElem? (i := 26) rfl))) Via.refl e0 F_limit_r0 (g := (mkF m 1 #[.val (.ref r0)] [(.ref r0)])) rfl rfl (hb hby d8_1)
  have pre2 : ∀ t, Steps p.tables e below (T1.setTop (mkF m 4 #[.val (.ref r0)] [(.long w_limit_r0)])) t → Steps p.tables e below (s₁.setTop (entryFrame m #[(.ref r0)] 1)) t := by
    intro t k
    refine pre0 _ ?_
    show Steps p.tables e below (s₁.setTop (mkF m 0 #[.val (.ref r0)] [])) _
    refine XS.aloadN X0.here hx rfl (hb hby d8_0) rfl rfl ?_
    show Steps p.tables e below (s₁.setTop (mkF m 1 #[.val (.ref r0)] [(.ref r0)])) _
    refine st1 _ ?_
    exact k
  obtain ⟨fs, hr, hrun, hended, hW, hsame⟩ := X1.leave (v := some (.long w_limit_r0)) (fun h => by rw [Bd.returns] at h; cases h)
  refine ⟨_, _, pre2 _ ?_, hrun, hended, _, _, rfl, ?_, ⟨_, rfl⟩, hW, hsame.mono (by decide) (by decide)⟩
  · show Steps p.tables e below (T1.setTop (mkF m 4 #[.val (.ref r0)] [(.long w_limit_r0)])) _
    jvm_step X1.here [X1.here.top, hx, (hb hby d8_4), X1.method', Bd.returns, narrow]
    first | (intro acts; rw [hr _ acts rfl rfl rfl]) | rw [hr _ _ rfl rfl rfl]
    exact Steps.refl _
  · show Q8 Z r0 w_limit_r0 h0 n0 _ T1.heap _
    rw [e1]
    exact ⟨rfl, N0, rfl⟩
def Q9 (Z : State) (r0 : Addr) (w_remaining_r0 : Int64) (h0 : Heap) (n0 : Nat) (v : Option Value) (h : Heap) (L : List Loc) : Prop := v = some (.long w_remaining_r0) ∧ Fr n0 L ∧ h = h0
theorem ef_9 (m : MethodId) (x0 : Addr) : entryFrame m #[(.ref x0)] 1 = mkF m 0 #[.val (.ref x0)] [] := by first | (simp [entryFrame, mkF, argsToLocals, Value.category]; done) | rfl
set_option maxRecDepth 65536 in
set_option maxHeartbeats 40000000 in
theorem rm9 (l : Launch) (Z : State) (a0 : Array Value) (hw : ∀ d ∈ tables_1, d.before a0 Z = true) (ws : List Jvm.Cond) (r0 : Addr) (w_remaining_r0 : Int64) (h0 : Heap) (n0 : Nat) (Z0 : n0 ≤ h0.size) (F_remaining_r0 : Fld Z h0 r0 "com/example/burst/burst/Decision" "remaining" "J" (.long w_remaining_r0)) :
    MetFree l (⟨"com/example/burst/burst/Decision", "remaining", "()J"⟩ : MethodName) (head1 (Jvm.Cond.code (⟨"com/example/burst/burst/Decision", "remaining", "()J"⟩ : MethodName) prog_3_method_12_code 1 (some .long) :: ws) ({ frames := 0, cells := 0, slots := 0, locals := 0 } : Room)) (fun a U => a = #[(.ref r0)] ∧ Z.Warmed39 U.vm ∧ U.heap = h0) (fun _ _ _ _ _ => True) (fun _ U o U' => ∃ v L, o = .returned v ∧ Q9 Z r0 w_remaining_r0 h0 n0 v U'.heap L ∧ FrameEnd U o U' L ({ frames := 0, cells := 0, slots := 0, locals := 0 } : Room).cells ({ frames := 0, cells := 0, slots := 0, locals := 0 } : Room).slots) := by
  refine MetFree.of_bodySF (plainFor_of_name pn_1) hisR ?_
  intro p e s m args below meth c s₁ Bd hml0 hP hK
  obtain ⟨rfl, hZ, hh⟩ := hP
  have hx := Bd.exec
  have hby := Bd.bytes
  have hml : c.maxLocals = 1 := hml0
  have hown : s.vm.findClass "com/example/burst/burst/Decision" = some m.cls := findClass_of_methodNamed Bd.named
  have hnm := (name_of_methodNamed Bd.named Bd.method).1
  have X0 : Stand p l e ({ frames := 0, cells := 0, slots := 0, locals := 0 } : Room) s m #[(.ref r0)] below meth c s₁ [] 0 0 := Stand.of_body Bd
  have e0 : s₁.heap = h0 := by rw [← hh, Bd.state]; rfl
  have N0 := Fr.nil n0
  have pre0 : ∀ t, Steps p.tables e below (s₁.setTop (mkF m 0 #[.val (.ref r0)] [])) t → Steps p.tables e below (s₁.setTop (entryFrame m #[(.ref r0)] 1)) t := fun t k => castTop (ef_9 m r0) k
  obtain ⟨T1, X1, e1, st1⟩ := getF X0 hx hZ hown (host := "") (Or.inl (hw _ (List.mem_of_getElem? (i := 28) rfl))) Via.refl e0 F_remaining_r0 (g := (mkF m 1 #[.val (.ref r0)] [(.ref r0)])) rfl rfl (hb hby d9_1)
  have pre2 : ∀ t, Steps p.tables e below (T1.setTop (mkF m 4 #[.val (.ref r0)] [(.long w_remaining_r0)])) t → Steps p.tables e below (s₁.setTop (entryFrame m #[(.ref r0)] 1)) t := by
    intro t k
    refine pre0 _ ?_
    show Steps p.tables e below (s₁.setTop (mkF m 0 #[.val (.ref r0)] [])) _
    refine XS.aloadN X0.here hx rfl (hb hby d9_0) rfl rfl ?_
    show Steps p.tables e below (s₁.setTop (mkF m 1 #[.val (.ref r0)] [(.ref r0)])) _
    refine st1 _ ?_
    exact k
  obtain ⟨fs, hr, hrun, hended, hW, hsame⟩ := X1.leave (v := some (.long w_remaining_r0)) (fun h => by rw [Bd.returns] at h; cases h)
  refine ⟨_, _, pre2 _ ?_, hrun, hended, _, _, rfl, ?_, ⟨_, rfl⟩, hW, hsame.mono (by decide) (by decide)⟩
  · show Steps p.tables e below (T1.setTop (mkF m 4 #[.val (.ref r0)] [(.long w_remaining_r0)])) _
    jvm_step X1.here [X1.here.top, hx, (hb hby d9_4), X1.method', Bd.returns, narrow]
    first | (intro acts; rw [hr _ acts rfl rfl rfl]) | rw [hr _ _ rfl rfl rfl]
    exact Steps.refl _
  · show Q9 Z r0 w_remaining_r0 h0 n0 _ T1.heap _
    rw [e1]
    exact ⟨rfl, N0, rfl⟩
def Q10 (Z : State) (r0 : Addr) (w_retryAfterMillis_r0 : Int64) (h0 : Heap) (n0 : Nat) (v : Option Value) (h : Heap) (L : List Loc) : Prop := v = some (.long w_retryAfterMillis_r0) ∧ Fr n0 L ∧ h = h0
theorem ef_10 (m : MethodId) (x0 : Addr) : entryFrame m #[(.ref x0)] 1 = mkF m 0 #[.val (.ref x0)] [] := by first | (simp [entryFrame, mkF, argsToLocals, Value.category]; done) | rfl
set_option maxRecDepth 65536 in
set_option maxHeartbeats 40000000 in
theorem rm10 (l : Launch) (Z : State) (a0 : Array Value) (hw : ∀ d ∈ tables_1, d.before a0 Z = true) (ws : List Jvm.Cond) (r0 : Addr) (w_retryAfterMillis_r0 : Int64) (h0 : Heap) (n0 : Nat) (Z0 : n0 ≤ h0.size) (F_retryAfterMillis_r0 : Fld Z h0 r0 "com/example/burst/burst/Decision" "retryAfterMillis" "J" (.long w_retryAfterMillis_r0)) :
    MetFree l (⟨"com/example/burst/burst/Decision", "retryAfterMillis", "()J"⟩ : MethodName) (head1 (Jvm.Cond.code (⟨"com/example/burst/burst/Decision", "retryAfterMillis", "()J"⟩ : MethodName) prog_3_method_13_code 1 (some .long) :: ws) ({ frames := 0, cells := 0, slots := 0, locals := 0 } : Room)) (fun a U => a = #[(.ref r0)] ∧ Z.Warmed39 U.vm ∧ U.heap = h0) (fun _ _ _ _ _ => True) (fun _ U o U' => ∃ v L, o = .returned v ∧ Q10 Z r0 w_retryAfterMillis_r0 h0 n0 v U'.heap L ∧ FrameEnd U o U' L ({ frames := 0, cells := 0, slots := 0, locals := 0 } : Room).cells ({ frames := 0, cells := 0, slots := 0, locals := 0 } : Room).slots) := by
  refine MetFree.of_bodySF (plainFor_of_name pn_1) hisR ?_
  intro p e s m args below meth c s₁ Bd hml0 hP hK
  obtain ⟨rfl, hZ, hh⟩ := hP
  have hx := Bd.exec
  have hby := Bd.bytes
  have hml : c.maxLocals = 1 := hml0
  have hown : s.vm.findClass "com/example/burst/burst/Decision" = some m.cls := findClass_of_methodNamed Bd.named
  have hnm := (name_of_methodNamed Bd.named Bd.method).1
  have X0 : Stand p l e ({ frames := 0, cells := 0, slots := 0, locals := 0 } : Room) s m #[(.ref r0)] below meth c s₁ [] 0 0 := Stand.of_body Bd
  have e0 : s₁.heap = h0 := by rw [← hh, Bd.state]; rfl
  have N0 := Fr.nil n0
  have pre0 : ∀ t, Steps p.tables e below (s₁.setTop (mkF m 0 #[.val (.ref r0)] [])) t → Steps p.tables e below (s₁.setTop (entryFrame m #[(.ref r0)] 1)) t := fun t k => castTop (ef_10 m r0) k
  obtain ⟨T1, X1, e1, st1⟩ := getF X0 hx hZ hown (host := "") (Or.inl (hw _ (List.mem_of_getElem? (i := 30) rfl))) Via.refl e0 F_retryAfterMillis_r0 (g := (mkF m 1 #[.val (.ref r0)] [(.ref r0)])) rfl rfl (hb hby d10_1)
  have pre2 : ∀ t, Steps p.tables e below (T1.setTop (mkF m 4 #[.val (.ref r0)] [(.long w_retryAfterMillis_r0)])) t → Steps p.tables e below (s₁.setTop (entryFrame m #[(.ref r0)] 1)) t := by
    intro t k
    refine pre0 _ ?_
    show Steps p.tables e below (s₁.setTop (mkF m 0 #[.val (.ref r0)] [])) _
    refine XS.aloadN X0.here hx rfl (hb hby d10_0) rfl rfl ?_
    show Steps p.tables e below (s₁.setTop (mkF m 1 #[.val (.ref r0)] [(.ref r0)])) _
    refine st1 _ ?_
    exact k
  obtain ⟨fs, hr, hrun, hended, hW, hsame⟩ := X1.leave (v := some (.long w_retryAfterMillis_r0)) (fun h => by rw [Bd.returns] at h; cases h)
  refine ⟨_, _, pre2 _ ?_, hrun, hended, _, _, rfl, ?_, ⟨_, rfl⟩, hW, hsame.mono (by decide) (by decide)⟩
  · show Steps p.tables e below (T1.setTop (mkF m 4 #[.val (.ref r0)] [(.long w_retryAfterMillis_r0)])) _
    jvm_step X1.here [X1.here.top, hx, (hb hby d10_4), X1.method', Bd.returns, narrow]
    first | (intro acts; rw [hr _ acts rfl rfl rfl]) | rw [hr _ _ rfl rfl rfl]
    exact Steps.refl _
  · show Q10 Z r0 w_retryAfterMillis_r0 h0 n0 _ T1.heap _
    rw [e1]
    exact ⟨rfl, N0, rfl⟩
def Q11 (Z : State) (r0 : Addr) (w_resetAfterMillis_r0 : Int64) (h0 : Heap) (n0 : Nat) (v : Option Value) (h : Heap) (L : List Loc) : Prop := v = some (.long w_resetAfterMillis_r0) ∧ Fr n0 L ∧ h = h0
theorem ef_11 (m : MethodId) (x0 : Addr) : entryFrame m #[(.ref x0)] 1 = mkF m 0 #[.val (.ref x0)] [] := by first | (simp [entryFrame, mkF, argsToLocals, Value.category]; done) | rfl
set_option maxRecDepth 65536 in
set_option maxHeartbeats 40000000 in
theorem rm11 (l : Launch) (Z : State) (a0 : Array Value) (hw : ∀ d ∈ tables_1, d.before a0 Z = true) (ws : List Jvm.Cond) (r0 : Addr) (w_resetAfterMillis_r0 : Int64) (h0 : Heap) (n0 : Nat) (Z0 : n0 ≤ h0.size) (F_resetAfterMillis_r0 : Fld Z h0 r0 "com/example/burst/burst/Decision" "resetAfterMillis" "J" (.long w_resetAfterMillis_r0)) :
    MetFree l (⟨"com/example/burst/burst/Decision", "resetAfterMillis", "()J"⟩ : MethodName) (head1 (Jvm.Cond.code (⟨"com/example/burst/burst/Decision", "resetAfterMillis", "()J"⟩ : MethodName) prog_3_method_14_code 1 (some .long) :: ws) ({ frames := 0, cells := 0, slots := 0, locals := 0 } : Room)) (fun a U => a = #[(.ref r0)] ∧ Z.Warmed39 U.vm ∧ U.heap = h0) (fun _ _ _ _ _ => True) (fun _ U o U' => ∃ v L, o = .returned v ∧ Q11 Z r0 w_resetAfterMillis_r0 h0 n0 v U'.heap L ∧ FrameEnd U o U' L ({ frames := 0, cells := 0, slots := 0, locals := 0 } : Room).cells ({ frames := 0, cells := 0, slots := 0, locals := 0 } : Room).slots) := by
  refine MetFree.of_bodySF (plainFor_of_name pn_1) hisR ?_
  intro p e s m args below meth c s₁ Bd hml0 hP hK
  obtain ⟨rfl, hZ, hh⟩ := hP
  have hx := Bd.exec
  have hby := Bd.bytes
  have hml : c.maxLocals = 1 := hml0
  have hown : s.vm.findClass "com/example/burst/burst/Decision" = some m.cls := findClass_of_methodNamed Bd.named
  have hnm := (name_of_methodNamed Bd.named Bd.method).1
  have X0 : Stand p l e ({ frames := 0, cells := 0, slots := 0, locals := 0 } : Room) s m #[(.ref r0)] below meth c s₁ [] 0 0 := Stand.of_body Bd
  have e0 : s₁.heap = h0 := by rw [← hh, Bd.state]; rfl
  have N0 := Fr.nil n0
  have pre0 : ∀ t, Steps p.tables e below (s₁.setTop (mkF m 0 #[.val (.ref r0)] [])) t → Steps p.tables e below (s₁.setTop (entryFrame m #[(.ref r0)] 1)) t := fun t k => castTop (ef_11 m r0) k
  obtain ⟨T1, X1, e1, st1⟩ := getF X0 hx hZ hown (host := "") (Or.inl (hw _ (List.mem_of_getElem? (i := 32) rfl))) Via.refl e0 F_resetAfterMillis_r0 (g := (mkF m 1 #[.val (.ref r0)] [(.ref r0)])) rfl rfl (hb hby d11_1)
  have pre2 : ∀ t, Steps p.tables e below (T1.setTop (mkF m 4 #[.val (.ref r0)] [(.long w_resetAfterMillis_r0)])) t → Steps p.tables e below (s₁.setTop (entryFrame m #[(.ref r0)] 1)) t := by
    intro t k
    refine pre0 _ ?_
    show Steps p.tables e below (s₁.setTop (mkF m 0 #[.val (.ref r0)] [])) _
    refine XS.aloadN X0.here hx rfl (hb hby d11_0) rfl rfl ?_
    show Steps p.tables e below (s₁.setTop (mkF m 1 #[.val (.ref r0)] [(.ref r0)])) _
    refine st1 _ ?_
    exact k
  obtain ⟨fs, hr, hrun, hended, hW, hsame⟩ := X1.leave (v := some (.long w_resetAfterMillis_r0)) (fun h => by rw [Bd.returns] at h; cases h)
  refine ⟨_, _, pre2 _ ?_, hrun, hended, _, _, rfl, ?_, ⟨_, rfl⟩, hW, hsame.mono (by decide) (by decide)⟩
  · show Steps p.tables e below (T1.setTop (mkF m 4 #[.val (.ref r0)] [(.long w_resetAfterMillis_r0)])) _
    jvm_step X1.here [X1.here.top, hx, (hb hby d11_4), X1.method', Bd.returns, narrow]
    first | (intro acts; rw [hr _ acts rfl rfl rfl]) | rw [hr _ _ rfl rfl rfl]
    exact Steps.refl _
  · show Q11 Z r0 w_resetAfterMillis_r0 h0 n0 _ T1.heap _
    rw [e1]
    exact ⟨rfl, N0, rfl⟩
def Q12 (Z : State) (r0 : Addr) (w_degraded_r0 : Int32) (h0 : Heap) (n0 : Nat) (v : Option Value) (h : Heap) (L : List Loc) : Prop := v = some (.int (nar .boolean w_degraded_r0)) ∧ Fr n0 L ∧ h = h0
theorem ef_12 (m : MethodId) (x0 : Addr) : entryFrame m #[(.ref x0)] 1 = mkF m 0 #[.val (.ref x0)] [] := by first | (simp [entryFrame, mkF, argsToLocals, Value.category]; done) | rfl
set_option maxRecDepth 65536 in
set_option maxHeartbeats 40000000 in
theorem rm12 (l : Launch) (Z : State) (a0 : Array Value) (hw : ∀ d ∈ tables_1, d.before a0 Z = true) (ws : List Jvm.Cond) (r0 : Addr) (w_degraded_r0 : Int32) (h0 : Heap) (n0 : Nat) (Z0 : n0 ≤ h0.size) (F_degraded_r0 : Fld Z h0 r0 "com/example/burst/burst/Decision" "degraded" "Z" (.int w_degraded_r0)) :
    MetFree l (⟨"com/example/burst/burst/Decision", "degraded", "()Z"⟩ : MethodName) (head1 (Jvm.Cond.code (⟨"com/example/burst/burst/Decision", "degraded", "()Z"⟩ : MethodName) prog_3_method_15_code 1 (some .boolean) :: ws) ({ frames := 0, cells := 0, slots := 0, locals := 0 } : Room)) (fun a U => a = #[(.ref r0)] ∧ Z.Warmed39 U.vm ∧ U.heap = h0) (fun _ _ _ _ _ => True) (fun _ U o U' => ∃ v L, o = .returned v ∧ Q12 Z r0 w_degraded_r0 h0 n0 v U'.heap L ∧ FrameEnd U o U' L ({ frames := 0, cells := 0, slots := 0, locals := 0 } : Room).cells ({ frames := 0, cells := 0, slots := 0, locals := 0 } : Room).slots) := by
  refine MetFree.of_bodySF (plainFor_of_name pn_1) hisR ?_
  intro p e s m args below meth c s₁ Bd hml0 hP hK
  obtain ⟨rfl, hZ, hh⟩ := hP
  have hx := Bd.exec
  have hby := Bd.bytes
  have hml : c.maxLocals = 1 := hml0
  have hown : s.vm.findClass "com/example/burst/burst/Decision" = some m.cls := findClass_of_methodNamed Bd.named
  have hnm := (name_of_methodNamed Bd.named Bd.method).1
  have X0 : Stand p l e ({ frames := 0, cells := 0, slots := 0, locals := 0 } : Room) s m #[(.ref r0)] below meth c s₁ [] 0 0 := Stand.of_body Bd
  have e0 : s₁.heap = h0 := by rw [← hh, Bd.state]; rfl
  have N0 := Fr.nil n0
  have pre0 : ∀ t, Steps p.tables e below (s₁.setTop (mkF m 0 #[.val (.ref r0)] [])) t → Steps p.tables e below (s₁.setTop (entryFrame m #[(.ref r0)] 1)) t := fun t k => castTop (ef_12 m r0) k
  obtain ⟨T1, X1, e1, st1⟩ := getF X0 hx hZ hown (host := "") (Or.inl (hw _ (List.mem_of_getElem? (i := 34) rfl))) Via.refl e0 F_degraded_r0 (g := (mkF m 1 #[.val (.ref r0)] [(.ref r0)])) rfl rfl (hb hby d12_1)
  have pre2 : ∀ t, Steps p.tables e below (T1.setTop (mkF m 4 #[.val (.ref r0)] [(.int w_degraded_r0)])) t → Steps p.tables e below (s₁.setTop (entryFrame m #[(.ref r0)] 1)) t := by
    intro t k
    refine pre0 _ ?_
    show Steps p.tables e below (s₁.setTop (mkF m 0 #[.val (.ref r0)] [])) _
    refine XS.aloadN X0.here hx rfl (hb hby d12_0) rfl rfl ?_
    show Steps p.tables e below (s₁.setTop (mkF m 1 #[.val (.ref r0)] [(.ref r0)])) _
    refine st1 _ ?_
    exact k
  obtain ⟨fs, hr, hrun, hended, hW, hsame⟩ := X1.leave (v := some (.int (nar .boolean w_degraded_r0))) (fun h => by rw [Bd.returns] at h; cases h)
  refine ⟨_, _, pre2 _ ?_, hrun, hended, _, _, rfl, ?_, ⟨_, rfl⟩, hW, hsame.mono (by decide) (by decide)⟩
  · show Steps p.tables e below (T1.setTop (mkF m 4 #[.val (.ref r0)] [(.int w_degraded_r0)])) _
    exact retN X1 hx (t := .boolean) Bd.returns (by simp) (hb hby d12_4) hr
  · show Q12 Z r0 w_degraded_r0 h0 n0 _ T1.heap _
    rw [e1]
    exact ⟨rfl, N0, rfl⟩
def own_j0_3_0 (i1 : Int32) : Int32 := (if (i1 &&& (1 : Int32)) = (0 : Int32) then (0 : Int32) else (1 : Int32))
def own_j0_16_0 (i1 : Int32) : Int32 := (if (i1 &&& (2 : Int32)) = (0 : Int32) then (0 : Int32) else (1 : Int32))
def own_j0_60_0 (i1 : Int32) (j4 : Int64) : Int64 := (if (own_j0_3_0 i1) = (0 : Int32) then (own_j1_3_0 j4 (-1 : Int64)) else (-1 : Int64))
def own_j0_122_0 (i1 : Int32) : Int32 := (if (nar .boolean (nar .boolean (nar .boolean (own_j0_3_0 i1)))) = (own_j0_3_0 i1) then (if (nar .boolean (nar .boolean (1 : Int32))) = (0 : Int32) then (0 : Int32) else (if (nar .boolean (nar .boolean (own_j0_16_0 i1))) = (own_j0_16_0 i1) then (1 : Int32) else (0 : Int32))) else (0 : Int32))
theorem own_ob0_g103_0 (j2 : Int64) (j3 : Int64) : ¬ ((own_j2_3_0 (j2 &&& (9223372036854775807 : Int64)) (j3 &&& (9223372036854775807 : Int64))) < (0 : Int64)) := by
  have h1 := own_m63 j2
  have h2 := own_m63 j3
  generalize (j2 &&& (9223372036854775807 : Int64)) = a at *
  generalize (j3 &&& (9223372036854775807 : Int64)) = b at *
  unfold own_j2_3_0
  rw [Int64.lt_iff_toInt_lt]
  show ¬ _ < (0 : Int)
  split <;> omega
theorem own_ob0_g103_1 (j2 : Int64) (j3 : Int64) : ¬ ((own_j1_3_0 (j2 &&& (9223372036854775807 : Int64)) (j3 &&& (9223372036854775807 : Int64))) < (own_j2_3_0 (j2 &&& (9223372036854775807 : Int64)) (j3 &&& (9223372036854775807 : Int64)))) := by
  generalize (j2 &&& (9223372036854775807 : Int64)) = a
  generalize (j3 &&& (9223372036854775807 : Int64)) = b
  unfold own_j2_3_0 own_j1_3_0
  by_cases q1 : a < b
  · by_cases q2 : b < a
    · rw [if_pos q1, if_pos q2]; simp only [Int64.lt_iff_toInt_lt] at *; omega
    · rw [if_pos q1, if_neg q2]; simp only [Int64.lt_iff_toInt_lt] at *; omega
  · by_cases q2 : b < a
    · rw [if_neg q1, if_pos q2]; simp only [Int64.lt_iff_toInt_lt] at *; omega
    · rw [if_neg q1, if_neg q2]; simp only [Int64.lt_iff_toInt_lt] at *; omega
theorem own_ob0_g103_2 (i1 : Int32) (j4 : Int64) : ¬ ((own_j0_60_0 i1 j4) < (-1 : Int64)) := by
  have k : (-1 : Int64).toInt = -1 := by decide
  unfold own_j0_60_0 own_j1_3_0
  by_cases q : own_j0_3_0 i1 = 0
  · rw [if_pos q]
    by_cases q2 : j4 < (-1 : Int64)
    · rw [if_pos q2]; decide
    · rw [if_neg q2]; exact q2
  · rw [if_neg q]; decide
theorem own_ob0_g103_3 (i1 : Int32) (j4 : Int64) : (¬ ((own_j0_3_0 i1) = (0 : Int32)) → (own_j0_60_0 i1 j4) = (-1 : Int64)) := fun h => if_neg h
theorem own_ob0_g103_4 (j5 : Int64) : ¬ ((j5 &&& (9223372036854775807 : Int64)) < (0 : Int64)) := own_m63n j5
theorem own_ob0_g110_5 (j2 : Int64) (j3 : Int64) : ¬ ((own_j2_3_0 (j2 &&& (9223372036854775807 : Int64)) (j3 &&& (9223372036854775807 : Int64))) < (0 : Int64)) := by
  have h1 := own_m63 j2
  have h2 := own_m63 j3
  generalize (j2 &&& (9223372036854775807 : Int64)) = a at *
  generalize (j3 &&& (9223372036854775807 : Int64)) = b at *
  unfold own_j2_3_0
  rw [Int64.lt_iff_toInt_lt]
  show ¬ _ < (0 : Int)
  split <;> omega
theorem own_ob0_g110_6 (j2 : Int64) (j3 : Int64) : ¬ ((own_j1_3_0 (j2 &&& (9223372036854775807 : Int64)) (j3 &&& (9223372036854775807 : Int64))) < (own_j2_3_0 (j2 &&& (9223372036854775807 : Int64)) (j3 &&& (9223372036854775807 : Int64)))) := by
  generalize (j2 &&& (9223372036854775807 : Int64)) = a
  generalize (j3 &&& (9223372036854775807 : Int64)) = b
  unfold own_j2_3_0 own_j1_3_0
  by_cases q1 : a < b
  · by_cases q2 : b < a
    · rw [if_pos q1, if_pos q2]; simp only [Int64.lt_iff_toInt_lt] at *; omega
    · rw [if_pos q1, if_neg q2]; simp only [Int64.lt_iff_toInt_lt] at *; omega
  · by_cases q2 : b < a
    · rw [if_neg q1, if_pos q2]; simp only [Int64.lt_iff_toInt_lt] at *; omega
    · rw [if_neg q1, if_neg q2]; simp only [Int64.lt_iff_toInt_lt] at *; omega
theorem own_ob0_g110_7 (i1 : Int32) (j4 : Int64) : ¬ ((own_j0_60_0 i1 j4) < (-1 : Int64)) := by
  have k : (-1 : Int64).toInt = -1 := by decide
  unfold own_j0_60_0 own_j1_3_0
  by_cases q : own_j0_3_0 i1 = 0
  · rw [if_pos q]
    by_cases q2 : j4 < (-1 : Int64)
    · rw [if_pos q2]; decide
    · rw [if_neg q2]; exact q2
  · rw [if_neg q]; decide
theorem own_ob0_g110_8 (i1 : Int32) (j4 : Int64) : (¬ ((nar .boolean (own_j0_3_0 i1)) = (0 : Int32)) → (own_j0_60_0 i1 j4) = (-1 : Int64)) := fun h => if_neg fun q => h (by rw [q]; rfl)
theorem own_ob0_g110_9 (j5 : Int64) : ¬ ((j5 &&& (9223372036854775807 : Int64)) < (0 : Int64)) := own_m63n j5
def Q0 (Z : State) (i1 : Int32) (j2 : Int64) (j3 : Int64) (j4 : Int64) (j5 : Int64) (h0 : Heap) (n0 : Nat) (v : Option Value) (h : Heap) (L : List Loc) : Prop := v = some (.int (nar .boolean (own_j0_122_0 i1))) ∧ Fr n0 L
theorem ef_0 (m : MethodId) (x0 : Int32) (x1 : Int64) (x2 : Int64) (x3 : Int64) (x4 : Int64) : entryFrame m #[(.int x0), (.long x1), (.long x2), (.long x3), (.long x4)] maxLocals = mkF m 0 #[.val (.int x0), .val (.long x1), .second, .val (.long x2), .second, .val (.long x3), .second, .val (.long x4), .second, .unset, .unset, .unset, .unset, .unset, .unset, .unset, .unset, .unset, .unset, .unset, .unset, .unset, .unset, .unset, .unset] [] := by first | (simp [entryFrame, mkF, argsToLocals, Value.category, maxLocals]; done) | rfl
set_option maxRecDepth 65536 in
set_option maxHeartbeats 40000000 in
theorem rm0 (l : Launch) (Z : State) (a0 : Array Value) (hw : ∀ d ∈ tables_1, d.before a0 Z = true) (ws : List Jvm.Cond) (i1 : Int32) (j2 : Int64) (j3 : Int64) (j4 : Int64) (j5 : Int64) (h0 : Heap) (n0 : Nat) (Z0 : n0 ≤ h0.size) :
    MetFree l x (head1 (Jvm.Cond.code x code maxLocals ret :: ws) room_1) (fun a U => a = #[(.int i1), (.long j2), (.long j3), (.long j4), (.long j5)] ∧ Z.Warmed39 U.vm ∧ U.heap = h0) (fun _ _ _ _ _ => True) (fun _ U o U' => ∃ v L, o = .returned v ∧ Q0 Z i1 j2 j3 j4 j5 h0 n0 v U'.heap L ∧ FrameEnd U o U' L room_1.cells room_1.slots) := by
  refine MetFree.of_bodySF (plainFor_of_name pn_2) hisR ?_
  intro p e s m args below meth c s₁ Bd hml0 hP hK
  obtain ⟨rfl, hZ, hh⟩ := hP
  have hx := Bd.exec
  have hby := Bd.bytes
  have hml : c.maxLocals = 25 := hml0
  have hown : s.vm.findClass "com/example/burst/burst/DecisionAsDegradedPinLaw" = some m.cls := findClass_of_methodNamed Bd.named
  have hnm := (name_of_methodNamed Bd.named Bd.method).1
  have X0 : Stand p l e room_1 s m #[(.int i1), (.long j2), (.long j3), (.long j4), (.long j5)] below meth c s₁ [] 0 0 := Stand.of_body Bd
  have e0 : s₁.heap = h0 := by rw [← hh, Bd.state]; rfl
  have N0 := Fr.nil n0
  have pre0 : ∀ t, Steps p.tables e below (s₁.setTop (mkF m 0 #[.val (.int i1), .val (.long j2), .second, .val (.long j3), .second, .val (.long j4), .second, .val (.long j5), .second, .unset, .unset, .unset, .unset, .unset, .unset, .unset, .unset, .unset, .unset, .unset, .unset, .unset, .unset, .unset, .unset] [])) t → Steps p.tables e below (s₁.setTop (entryFrame m #[(.int i1), (.long j2), (.long j3), (.long j4), (.long j5)] maxLocals)) t := fun t k => castTop (ef_0 m i1 j2 j3 j4 j5) k
  have pre1 : ∀ t, Steps p.tables e below (s₁.setTop (mkF m 3 #[.val (.int i1), .val (.long j2), .second, .val (.long j3), .second, .val (.long j4), .second, .val (.long j5), .second, .unset, .unset, .unset, .unset, .unset, .unset, .unset, .unset, .unset, .unset, .unset, .unset, .unset, .unset, .unset, .unset] [(.int (i1 &&& (1 : Int32)))])) t → Steps p.tables e below (s₁.setTop (entryFrame m #[(.int i1), (.long j2), (.long j3), (.long j4), (.long j5)] maxLocals)) t := by
    intro t k
    refine pre0 _ ?_
    show Steps p.tables e below (s₁.setTop (mkF m 0 #[.val (.int i1), .val (.long j2), .second, .val (.long j3), .second, .val (.long j4), .second, .val (.long j5), .second, .unset, .unset, .unset, .unset, .unset, .unset, .unset, .unset, .unset, .unset, .unset, .unset, .unset, .unset, .unset, .unset] [])) _
    refine XS.iloadN X0.here hx rfl (hb hby at_0) rfl ?_
    show Steps p.tables e below (s₁.setTop (mkF m 1 #[.val (.int i1), .val (.long j2), .second, .val (.long j3), .second, .val (.long j4), .second, .val (.long j5), .second, .unset, .unset, .unset, .unset, .unset, .unset, .unset, .unset, .unset, .unset, .unset, .unset, .unset, .unset, .unset, .unset] [(.int i1)])) _
    refine XS.iconst X0.here hx rfl (hb hby at_1) ?_
    show Steps p.tables e below (s₁.setTop (mkF m 2 #[.val (.int i1), .val (.long j2), .second, .val (.long j3), .second, .val (.long j4), .second, .val (.long j5), .second, .unset, .unset, .unset, .unset, .unset, .unset, .unset, .unset, .unset, .unset, .unset, .unset, .unset, .unset, .unset, .unset] [(.int (1 : Int32)), (.int i1)])) _
    refine XS.iand X0.here hx rfl (hb hby at_2) rfl ?_
    exact k
  have pre5 : ∀ t, Steps p.tables e below (s₁.setTop (mkF m 11 #[.val (.int i1), .val (.long j2), .second, .val (.long j3), .second, .val (.long j4), .second, .val (.long j5), .second, .unset, .unset, .unset, .unset, .unset, .unset, .unset, .unset, .unset, .unset, .unset, .unset, .unset, .unset, .unset, .unset] [(.int (own_j0_3_0 i1))])) t → Steps p.tables e below (s₁.setTop (entryFrame m #[(.int i1), (.long j2), (.long j3), (.long j4), (.long j5)] maxLocals)) t := by
    by_cases hc3_2 : (i1 &&& (1 : Int32)) = (0 : Int32)
    · have pre3 : ∀ t, Steps p.tables e below (s₁.setTop (mkF m 11 #[.val (.int i1), .val (.long j2), .second, .val (.long j3), .second, .val (.long j4), .second, .val (.long j5), .second, .unset, .unset, .unset, .unset, .unset, .unset, .unset, .unset, .unset, .unset, .unset, .unset, .unset, .unset, .unset, .unset] [(.int (0 : Int32))])) t → Steps p.tables e below (s₁.setTop (entryFrame m #[(.int i1), (.long j2), (.long j3), (.long j4), (.long j5)] maxLocals)) t := by
        intro t k
        refine pre1 _ ?_
        show Steps p.tables e below (s₁.setTop (mkF m 3 #[.val (.int i1), .val (.long j2), .second, .val (.long j3), .second, .val (.long j4), .second, .val (.long j5), .second, .unset, .unset, .unset, .unset, .unset, .unset, .unset, .unset, .unset, .unset, .unset, .unset, .unset, .unset, .unset, .unset] [(.int (i1 &&& (1 : Int32)))])) _
        refine XS.ifYes X0.here hx rfl (pc0 := 3) (pc' := 10) rfl (hb hby at_3) rfl ((if0 _ _).trans (teq hc3_2).1) (by decide) (by decide) ?_
        show Steps p.tables e below (s₁.setTop (mkF m 10 #[.val (.int i1), .val (.long j2), .second, .val (.long j3), .second, .val (.long j4), .second, .val (.long j5), .second, .unset, .unset, .unset, .unset, .unset, .unset, .unset, .unset, .unset, .unset, .unset, .unset, .unset, .unset, .unset, .unset] [])) _
        refine XS.iconst X0.here hx rfl (hb hby at_10) ?_
        exact k
      exact fun t k => pre3 t (by rw [show (own_j0_3_0 i1) = (0 : Int32) from (if_pos hc3_2)] at k; exact k)
    · have pre4 : ∀ t, Steps p.tables e below (s₁.setTop (mkF m 11 #[.val (.int i1), .val (.long j2), .second, .val (.long j3), .second, .val (.long j4), .second, .val (.long j5), .second, .unset, .unset, .unset, .unset, .unset, .unset, .unset, .unset, .unset, .unset, .unset, .unset, .unset, .unset, .unset, .unset] [(.int (1 : Int32))])) t → Steps p.tables e below (s₁.setTop (entryFrame m #[(.int i1), (.long j2), (.long j3), (.long j4), (.long j5)] maxLocals)) t := by
        intro t k
        refine pre1 _ ?_
        show Steps p.tables e below (s₁.setTop (mkF m 3 #[.val (.int i1), .val (.long j2), .second, .val (.long j3), .second, .val (.long j4), .second, .val (.long j5), .second, .unset, .unset, .unset, .unset, .unset, .unset, .unset, .unset, .unset, .unset, .unset, .unset, .unset, .unset, .unset, .unset] [(.int (i1 &&& (1 : Int32)))])) _
        refine XS.ifNo X0.here hx rfl (hb hby at_3) rfl ((if0 _ _).trans (feq hc3_2).1) ?_
        show Steps p.tables e below (s₁.setTop (mkF m 6 #[.val (.int i1), .val (.long j2), .second, .val (.long j3), .second, .val (.long j4), .second, .val (.long j5), .second, .unset, .unset, .unset, .unset, .unset, .unset, .unset, .unset, .unset, .unset, .unset, .unset, .unset, .unset, .unset, .unset] [])) _
        refine XS.iconst X0.here hx rfl (hb hby at_6) ?_
        show Steps p.tables e below (s₁.setTop (mkF m 7 #[.val (.int i1), .val (.long j2), .second, .val (.long j3), .second, .val (.long j4), .second, .val (.long j5), .second, .unset, .unset, .unset, .unset, .unset, .unset, .unset, .unset, .unset, .unset, .unset, .unset, .unset, .unset, .unset, .unset] [(.int (1 : Int32))])) _
        refine XS.goto X0.here hx rfl (pc0 := 7) (pc' := 11) rfl (hb hby at_7) (by decide) (by decide) ?_
        exact k
      exact fun t k => pre4 t (by rw [show (own_j0_3_0 i1) = (1 : Int32) from (if_neg hc3_2)] at k; exact k)
  have pre6 : ∀ t, Steps p.tables e below (s₁.setTop (mkF m 16 #[.val (.int i1), .val (.long j2), .second, .val (.long j3), .second, .val (.long j4), .second, .val (.long j5), .second, .val (.int (own_j0_3_0 i1)), .unset, .unset, .unset, .unset, .unset, .unset, .unset, .unset, .unset, .unset, .unset, .unset, .unset, .unset, .unset] [(.int (i1 &&& (2 : Int32)))])) t → Steps p.tables e below (s₁.setTop (entryFrame m #[(.int i1), (.long j2), (.long j3), (.long j4), (.long j5)] maxLocals)) t := by
    intro t k
    refine pre5 _ ?_
    show Steps p.tables e below (s₁.setTop (mkF m 11 #[.val (.int i1), .val (.long j2), .second, .val (.long j3), .second, .val (.long j4), .second, .val (.long j5), .second, .unset, .unset, .unset, .unset, .unset, .unset, .unset, .unset, .unset, .unset, .unset, .unset, .unset, .unset, .unset, .unset] [(.int (own_j0_3_0 i1))])) _
    refine XS.istore X0.here hx rfl (hb hby at_11) rfl (l' := #[.val (.int i1), .val (.long j2), .second, .val (.long j3), .second, .val (.long j4), .second, .val (.long j5), .second, .val (.int (own_j0_3_0 i1)), .unset, .unset, .unset, .unset, .unset, .unset, .unset, .unset, .unset, .unset, .unset, .unset, .unset, .unset, .unset]) rfl ?_
    show Steps p.tables e below (s₁.setTop (mkF m 13 #[.val (.int i1), .val (.long j2), .second, .val (.long j3), .second, .val (.long j4), .second, .val (.long j5), .second, .val (.int (own_j0_3_0 i1)), .unset, .unset, .unset, .unset, .unset, .unset, .unset, .unset, .unset, .unset, .unset, .unset, .unset, .unset, .unset] [])) _
    refine XS.iloadN X0.here hx rfl (hb hby at_13) rfl ?_
    show Steps p.tables e below (s₁.setTop (mkF m 14 #[.val (.int i1), .val (.long j2), .second, .val (.long j3), .second, .val (.long j4), .second, .val (.long j5), .second, .val (.int (own_j0_3_0 i1)), .unset, .unset, .unset, .unset, .unset, .unset, .unset, .unset, .unset, .unset, .unset, .unset, .unset, .unset, .unset] [(.int i1)])) _
    refine XS.iconst X0.here hx rfl (hb hby at_14) ?_
    show Steps p.tables e below (s₁.setTop (mkF m 15 #[.val (.int i1), .val (.long j2), .second, .val (.long j3), .second, .val (.long j4), .second, .val (.long j5), .second, .val (.int (own_j0_3_0 i1)), .unset, .unset, .unset, .unset, .unset, .unset, .unset, .unset, .unset, .unset, .unset, .unset, .unset, .unset, .unset] [(.int (2 : Int32)), (.int i1)])) _
    refine XS.iand X0.here hx rfl (hb hby at_15) rfl ?_
    exact k
  have pre10 : ∀ t, Steps p.tables e below (s₁.setTop (mkF m 24 #[.val (.int i1), .val (.long j2), .second, .val (.long j3), .second, .val (.long j4), .second, .val (.long j5), .second, .val (.int (own_j0_3_0 i1)), .unset, .unset, .unset, .unset, .unset, .unset, .unset, .unset, .unset, .unset, .unset, .unset, .unset, .unset, .unset] [(.int (own_j0_16_0 i1))])) t → Steps p.tables e below (s₁.setTop (entryFrame m #[(.int i1), (.long j2), (.long j3), (.long j4), (.long j5)] maxLocals)) t := by
    by_cases hc16_7 : (i1 &&& (2 : Int32)) = (0 : Int32)
    · have pre8 : ∀ t, Steps p.tables e below (s₁.setTop (mkF m 24 #[.val (.int i1), .val (.long j2), .second, .val (.long j3), .second, .val (.long j4), .second, .val (.long j5), .second, .val (.int (own_j0_3_0 i1)), .unset, .unset, .unset, .unset, .unset, .unset, .unset, .unset, .unset, .unset, .unset, .unset, .unset, .unset, .unset] [(.int (0 : Int32))])) t → Steps p.tables e below (s₁.setTop (entryFrame m #[(.int i1), (.long j2), (.long j3), (.long j4), (.long j5)] maxLocals)) t := by
        intro t k
        refine pre6 _ ?_
        show Steps p.tables e below (s₁.setTop (mkF m 16 #[.val (.int i1), .val (.long j2), .second, .val (.long j3), .second, .val (.long j4), .second, .val (.long j5), .second, .val (.int (own_j0_3_0 i1)), .unset, .unset, .unset, .unset, .unset, .unset, .unset, .unset, .unset, .unset, .unset, .unset, .unset, .unset, .unset] [(.int (i1 &&& (2 : Int32)))])) _
        refine XS.ifYes X0.here hx rfl (pc0 := 16) (pc' := 23) rfl (hb hby at_16) rfl ((if0 _ _).trans (teq hc16_7).1) (by decide) (by decide) ?_
        show Steps p.tables e below (s₁.setTop (mkF m 23 #[.val (.int i1), .val (.long j2), .second, .val (.long j3), .second, .val (.long j4), .second, .val (.long j5), .second, .val (.int (own_j0_3_0 i1)), .unset, .unset, .unset, .unset, .unset, .unset, .unset, .unset, .unset, .unset, .unset, .unset, .unset, .unset, .unset] [])) _
        refine XS.iconst X0.here hx rfl (hb hby at_23) ?_
        exact k
      exact fun t k => pre8 t (by rw [show (own_j0_16_0 i1) = (0 : Int32) from (if_pos hc16_7)] at k; exact k)
    · have pre9 : ∀ t, Steps p.tables e below (s₁.setTop (mkF m 24 #[.val (.int i1), .val (.long j2), .second, .val (.long j3), .second, .val (.long j4), .second, .val (.long j5), .second, .val (.int (own_j0_3_0 i1)), .unset, .unset, .unset, .unset, .unset, .unset, .unset, .unset, .unset, .unset, .unset, .unset, .unset, .unset, .unset] [(.int (1 : Int32))])) t → Steps p.tables e below (s₁.setTop (entryFrame m #[(.int i1), (.long j2), (.long j3), (.long j4), (.long j5)] maxLocals)) t := by
        intro t k
        refine pre6 _ ?_
        show Steps p.tables e below (s₁.setTop (mkF m 16 #[.val (.int i1), .val (.long j2), .second, .val (.long j3), .second, .val (.long j4), .second, .val (.long j5), .second, .val (.int (own_j0_3_0 i1)), .unset, .unset, .unset, .unset, .unset, .unset, .unset, .unset, .unset, .unset, .unset, .unset, .unset, .unset, .unset] [(.int (i1 &&& (2 : Int32)))])) _
        refine XS.ifNo X0.here hx rfl (hb hby at_16) rfl ((if0 _ _).trans (feq hc16_7).1) ?_
        show Steps p.tables e below (s₁.setTop (mkF m 19 #[.val (.int i1), .val (.long j2), .second, .val (.long j3), .second, .val (.long j4), .second, .val (.long j5), .second, .val (.int (own_j0_3_0 i1)), .unset, .unset, .unset, .unset, .unset, .unset, .unset, .unset, .unset, .unset, .unset, .unset, .unset, .unset, .unset] [])) _
        refine XS.iconst X0.here hx rfl (hb hby at_19) ?_
        show Steps p.tables e below (s₁.setTop (mkF m 20 #[.val (.int i1), .val (.long j2), .second, .val (.long j3), .second, .val (.long j4), .second, .val (.long j5), .second, .val (.int (own_j0_3_0 i1)), .unset, .unset, .unset, .unset, .unset, .unset, .unset, .unset, .unset, .unset, .unset, .unset, .unset, .unset, .unset] [(.int (1 : Int32))])) _
        refine XS.goto X0.here hx rfl (pc0 := 20) (pc' := 24) rfl (hb hby at_20) (by decide) (by decide) ?_
        exact k
      exact fun t k => pre9 t (by rw [show (own_j0_16_0 i1) = (1 : Int32) from (if_neg hc16_7)] at k; exact k)
  obtain ⟨_, _, ⟨T11, L11, k11, n11⟩, -, X11, ⟨Lc11, hQ11, l11, y11, z11⟩, st11⟩ := Jvm.LawKit.callS X0 hx (y := (⟨"java/lang/Math", "max", "(JJ)J"⟩ : MethodName)) hown (mvT hZ (hw _ (List.mem_of_getElem? (i := 1) rfl))) (mvT hZ (hw _ (List.mem_of_getElem? (i := 2) rfl))) (mvT hZ (hw _ (List.mem_of_getElem? (i := 3) rfl))) (mvT hZ (hw _ (List.mem_of_getElem? (i := 4) rfl))) (by decide) (backOf (W := 0) (rm1 l Z a0 hw [] (j2 &&& (9223372036854775807 : Int64)) (j3 &&& (9223372036854775807 : Int64)) h0 n0 (Nat.le_trans Z0 (Keep.refl h0 []).1) ) hZ (hw _ (List.mem_of_getElem? (i := 4) rfl)) (hw _ (List.mem_of_getElem? (i := 3) rfl)) (by decide) (by decide)) (g := (mkF m 44 #[.val (.int i1), .val (.long j2), .second, .val (.long j3), .second, .val (.long j4), .second, .val (.long j5), .second, .val (.int (own_j0_3_0 i1)), .val (.int (own_j0_16_0 i1)), .val (.long (j2 &&& (9223372036854775807 : Int64))), .second, .val (.long (j3 &&& (9223372036854775807 : Int64))), .second, .unset, .unset, .unset, .unset, .unset, .unset, .unset, .unset, .unset, .unset] [(.long (j3 &&& (9223372036854775807 : Int64))), (.long (j2 &&& (9223372036854775807 : Int64)))])) rfl (by rw [hml]; rfl) (argsL := [(.long (j2 &&& (9223372036854775807 : Int64))), (.long (j3 &&& (9223372036854775807 : Int64)))]) (rest := []) (lenOf pd_0 rfl) rfl (by show 2 * 0 + _ ≤ _; exact Nat.le_of_eq rfl) (hb hby at_44) (fun _ _ => ⟨rfl, e0, (by decide : 0 + 0 ≤ _), (by decide : 0 + 0 ≤ _)⟩)
  dsimp only [Pt.U, Pt.locs, Pt.cells, Pt.slots] at X11 l11 y11 z11 st11 hQ11
  subst l11 y11 z11
  obtain ⟨rfl, Nq11, e11⟩ := hQ11
  have N11 := Fr.app N0 Nq11
  obtain ⟨_, _, ⟨T12, L12, k12, n12⟩, -, X12, ⟨Lc12, hQ12, l12, y12, z12⟩, st12⟩ := Jvm.LawKit.callS X11 hx (y := (⟨"java/lang/Math", "min", "(JJ)J"⟩ : MethodName)) hown (mvT hZ (hw _ (List.mem_of_getElem? (i := 5) rfl))) (mvT hZ (hw _ (List.mem_of_getElem? (i := 6) rfl))) (mvT hZ (hw _ (List.mem_of_getElem? (i := 3) rfl))) (mvT hZ (hw _ (List.mem_of_getElem? (i := 7) rfl))) (by decide) (backOf (W := 0) (rm2 l Z a0 hw [] (j2 &&& (9223372036854775807 : Int64)) (j3 &&& (9223372036854775807 : Int64)) h0 n0 (Nat.le_trans Z0 (Keep.refl h0 []).1) ) hZ (hw _ (List.mem_of_getElem? (i := 7) rfl)) (hw _ (List.mem_of_getElem? (i := 3) rfl)) (by decide) (by decide)) (g := (mkF m 53 #[.val (.int i1), .val (.long j2), .second, .val (.long j3), .second, .val (.long j4), .second, .val (.long j5), .second, .val (.int (own_j0_3_0 i1)), .val (.int (own_j0_16_0 i1)), .val (.long (j2 &&& (9223372036854775807 : Int64))), .second, .val (.long (j3 &&& (9223372036854775807 : Int64))), .second, .val (.long (own_j1_3_0 (j2 &&& (9223372036854775807 : Int64)) (j3 &&& (9223372036854775807 : Int64)))), .second, .unset, .unset, .unset, .unset, .unset, .unset, .unset, .unset] [(.long (j3 &&& (9223372036854775807 : Int64))), (.long (j2 &&& (9223372036854775807 : Int64)))])) rfl (by rw [hml]; rfl) (argsL := [(.long (j2 &&& (9223372036854775807 : Int64))), (.long (j3 &&& (9223372036854775807 : Int64)))]) (rest := []) (lenOf pd_0 rfl) rfl (by show 2 * 0 + _ ≤ _; exact Nat.le_of_eq rfl) (hb hby at_53) (fun _ _ => ⟨rfl, e11, (by decide : 0 + 0 ≤ _), (by decide : 0 + 0 ≤ _)⟩)
  dsimp only [Pt.U, Pt.locs, Pt.cells, Pt.slots] at X12 l12 y12 z12 st12 hQ12
  subst l12 y12 z12
  obtain ⟨rfl, Nq12, e12⟩ := hQ12
  have N12 := Fr.app N11 Nq12
  have pre13 : ∀ t, Steps p.tables e below (T12.setTop (mkF m 60 #[.val (.int i1), .val (.long j2), .second, .val (.long j3), .second, .val (.long j4), .second, .val (.long j5), .second, .val (.int (own_j0_3_0 i1)), .val (.int (own_j0_16_0 i1)), .val (.long (j2 &&& (9223372036854775807 : Int64))), .second, .val (.long (j3 &&& (9223372036854775807 : Int64))), .second, .val (.long (own_j1_3_0 (j2 &&& (9223372036854775807 : Int64)) (j3 &&& (9223372036854775807 : Int64)))), .second, .val (.long (own_j2_3_0 (j2 &&& (9223372036854775807 : Int64)) (j3 &&& (9223372036854775807 : Int64)))), .second, .unset, .unset, .unset, .unset, .unset, .unset] [(.int (own_j0_3_0 i1))])) t → Steps p.tables e below (s₁.setTop (entryFrame m #[(.int i1), (.long j2), (.long j3), (.long j4), (.long j5)] maxLocals)) t := by
    intro t k
    refine pre10 _ ?_
    show Steps p.tables e below (s₁.setTop (mkF m 24 #[.val (.int i1), .val (.long j2), .second, .val (.long j3), .second, .val (.long j4), .second, .val (.long j5), .second, .val (.int (own_j0_3_0 i1)), .unset, .unset, .unset, .unset, .unset, .unset, .unset, .unset, .unset, .unset, .unset, .unset, .unset, .unset, .unset] [(.int (own_j0_16_0 i1))])) _
    refine XS.istore X0.here hx rfl (hb hby at_24) rfl (l' := #[.val (.int i1), .val (.long j2), .second, .val (.long j3), .second, .val (.long j4), .second, .val (.long j5), .second, .val (.int (own_j0_3_0 i1)), .val (.int (own_j0_16_0 i1)), .unset, .unset, .unset, .unset, .unset, .unset, .unset, .unset, .unset, .unset, .unset, .unset, .unset, .unset]) rfl ?_
    show Steps p.tables e below (s₁.setTop (mkF m 26 #[.val (.int i1), .val (.long j2), .second, .val (.long j3), .second, .val (.long j4), .second, .val (.long j5), .second, .val (.int (own_j0_3_0 i1)), .val (.int (own_j0_16_0 i1)), .unset, .unset, .unset, .unset, .unset, .unset, .unset, .unset, .unset, .unset, .unset, .unset, .unset, .unset] [])) _
    refine XS.lloadN X0.here hx rfl (hb hby at_26) rfl ?_
    show Steps p.tables e below (s₁.setTop (mkF m 27 #[.val (.int i1), .val (.long j2), .second, .val (.long j3), .second, .val (.long j4), .second, .val (.long j5), .second, .val (.int (own_j0_3_0 i1)), .val (.int (own_j0_16_0 i1)), .unset, .unset, .unset, .unset, .unset, .unset, .unset, .unset, .unset, .unset, .unset, .unset, .unset, .unset] [(.long j2)])) _
    refine X0.ldc2Long hx hown (mvT hZ (hw _ (List.mem_of_getElem? (i := 0) rfl))) (g := (mkF m 27 #[.val (.int i1), .val (.long j2), .second, .val (.long j3), .second, .val (.long j4), .second, .val (.long j5), .second, .val (.int (own_j0_3_0 i1)), .val (.int (own_j0_16_0 i1)), .unset, .unset, .unset, .unset, .unset, .unset, .unset, .unset, .unset, .unset, .unset, .unset, .unset, .unset] [(.long j2)])) rfl (hb hby at_27) _ ?_
    show Steps p.tables e below (s₁.setTop (mkF m 30 #[.val (.int i1), .val (.long j2), .second, .val (.long j3), .second, .val (.long j4), .second, .val (.long j5), .second, .val (.int (own_j0_3_0 i1)), .val (.int (own_j0_16_0 i1)), .unset, .unset, .unset, .unset, .unset, .unset, .unset, .unset, .unset, .unset, .unset, .unset, .unset, .unset] [(.long (9223372036854775807 : Int64)), (.long j2)])) _
    refine XS.land X0.here hx rfl (hb hby at_30) rfl ?_
    show Steps p.tables e below (s₁.setTop (mkF m 31 #[.val (.int i1), .val (.long j2), .second, .val (.long j3), .second, .val (.long j4), .second, .val (.long j5), .second, .val (.int (own_j0_3_0 i1)), .val (.int (own_j0_16_0 i1)), .unset, .unset, .unset, .unset, .unset, .unset, .unset, .unset, .unset, .unset, .unset, .unset, .unset, .unset] [(.long (j2 &&& (9223372036854775807 : Int64)))])) _
    refine XS.lstore X0.here hx rfl (hb hby at_31) rfl (l' := #[.val (.int i1), .val (.long j2), .second, .val (.long j3), .second, .val (.long j4), .second, .val (.long j5), .second, .val (.int (own_j0_3_0 i1)), .val (.int (own_j0_16_0 i1)), .val (.long (j2 &&& (9223372036854775807 : Int64))), .second, .unset, .unset, .unset, .unset, .unset, .unset, .unset, .unset, .unset, .unset, .unset, .unset]) rfl ?_
    show Steps p.tables e below (s₁.setTop (mkF m 33 #[.val (.int i1), .val (.long j2), .second, .val (.long j3), .second, .val (.long j4), .second, .val (.long j5), .second, .val (.int (own_j0_3_0 i1)), .val (.int (own_j0_16_0 i1)), .val (.long (j2 &&& (9223372036854775807 : Int64))), .second, .unset, .unset, .unset, .unset, .unset, .unset, .unset, .unset, .unset, .unset, .unset, .unset] [])) _
    refine XS.lloadN X0.here hx rfl (hb hby at_33) rfl ?_
    show Steps p.tables e below (s₁.setTop (mkF m 34 #[.val (.int i1), .val (.long j2), .second, .val (.long j3), .second, .val (.long j4), .second, .val (.long j5), .second, .val (.int (own_j0_3_0 i1)), .val (.int (own_j0_16_0 i1)), .val (.long (j2 &&& (9223372036854775807 : Int64))), .second, .unset, .unset, .unset, .unset, .unset, .unset, .unset, .unset, .unset, .unset, .unset, .unset] [(.long j3)])) _
    refine X0.ldc2Long hx hown (mvT hZ (hw _ (List.mem_of_getElem? (i := 0) rfl))) (g := (mkF m 34 #[.val (.int i1), .val (.long j2), .second, .val (.long j3), .second, .val (.long j4), .second, .val (.long j5), .second, .val (.int (own_j0_3_0 i1)), .val (.int (own_j0_16_0 i1)), .val (.long (j2 &&& (9223372036854775807 : Int64))), .second, .unset, .unset, .unset, .unset, .unset, .unset, .unset, .unset, .unset, .unset, .unset, .unset] [(.long j3)])) rfl (hb hby at_34) _ ?_
    show Steps p.tables e below (s₁.setTop (mkF m 37 #[.val (.int i1), .val (.long j2), .second, .val (.long j3), .second, .val (.long j4), .second, .val (.long j5), .second, .val (.int (own_j0_3_0 i1)), .val (.int (own_j0_16_0 i1)), .val (.long (j2 &&& (9223372036854775807 : Int64))), .second, .unset, .unset, .unset, .unset, .unset, .unset, .unset, .unset, .unset, .unset, .unset, .unset] [(.long (9223372036854775807 : Int64)), (.long j3)])) _
    refine XS.land X0.here hx rfl (hb hby at_37) rfl ?_
    show Steps p.tables e below (s₁.setTop (mkF m 38 #[.val (.int i1), .val (.long j2), .second, .val (.long j3), .second, .val (.long j4), .second, .val (.long j5), .second, .val (.int (own_j0_3_0 i1)), .val (.int (own_j0_16_0 i1)), .val (.long (j2 &&& (9223372036854775807 : Int64))), .second, .unset, .unset, .unset, .unset, .unset, .unset, .unset, .unset, .unset, .unset, .unset, .unset] [(.long (j3 &&& (9223372036854775807 : Int64)))])) _
    refine XS.lstore X0.here hx rfl (hb hby at_38) rfl (l' := #[.val (.int i1), .val (.long j2), .second, .val (.long j3), .second, .val (.long j4), .second, .val (.long j5), .second, .val (.int (own_j0_3_0 i1)), .val (.int (own_j0_16_0 i1)), .val (.long (j2 &&& (9223372036854775807 : Int64))), .second, .val (.long (j3 &&& (9223372036854775807 : Int64))), .second, .unset, .unset, .unset, .unset, .unset, .unset, .unset, .unset, .unset, .unset]) rfl ?_
    show Steps p.tables e below (s₁.setTop (mkF m 40 #[.val (.int i1), .val (.long j2), .second, .val (.long j3), .second, .val (.long j4), .second, .val (.long j5), .second, .val (.int (own_j0_3_0 i1)), .val (.int (own_j0_16_0 i1)), .val (.long (j2 &&& (9223372036854775807 : Int64))), .second, .val (.long (j3 &&& (9223372036854775807 : Int64))), .second, .unset, .unset, .unset, .unset, .unset, .unset, .unset, .unset, .unset, .unset] [])) _
    refine XS.lload X0.here hx rfl (hb hby at_40) rfl ?_
    show Steps p.tables e below (s₁.setTop (mkF m 42 #[.val (.int i1), .val (.long j2), .second, .val (.long j3), .second, .val (.long j4), .second, .val (.long j5), .second, .val (.int (own_j0_3_0 i1)), .val (.int (own_j0_16_0 i1)), .val (.long (j2 &&& (9223372036854775807 : Int64))), .second, .val (.long (j3 &&& (9223372036854775807 : Int64))), .second, .unset, .unset, .unset, .unset, .unset, .unset, .unset, .unset, .unset, .unset] [(.long (j2 &&& (9223372036854775807 : Int64)))])) _
    refine XS.lload X0.here hx rfl (hb hby at_42) rfl ?_
    show Steps p.tables e below (s₁.setTop (mkF m 44 #[.val (.int i1), .val (.long j2), .second, .val (.long j3), .second, .val (.long j4), .second, .val (.long j5), .second, .val (.int (own_j0_3_0 i1)), .val (.int (own_j0_16_0 i1)), .val (.long (j2 &&& (9223372036854775807 : Int64))), .second, .val (.long (j3 &&& (9223372036854775807 : Int64))), .second, .unset, .unset, .unset, .unset, .unset, .unset, .unset, .unset, .unset, .unset] [(.long (j3 &&& (9223372036854775807 : Int64))), (.long (j2 &&& (9223372036854775807 : Int64)))])) _
    refine st11 _ ?_
    show Steps p.tables e below (T11.setTop (mkF m 47 #[.val (.int i1), .val (.long j2), .second, .val (.long j3), .second, .val (.long j4), .second, .val (.long j5), .second, .val (.int (own_j0_3_0 i1)), .val (.int (own_j0_16_0 i1)), .val (.long (j2 &&& (9223372036854775807 : Int64))), .second, .val (.long (j3 &&& (9223372036854775807 : Int64))), .second, .unset, .unset, .unset, .unset, .unset, .unset, .unset, .unset, .unset, .unset] [(.long (own_j1_3_0 (j2 &&& (9223372036854775807 : Int64)) (j3 &&& (9223372036854775807 : Int64))))])) _
    refine XS.lstore X11.here hx rfl (hb hby at_47) rfl (l' := #[.val (.int i1), .val (.long j2), .second, .val (.long j3), .second, .val (.long j4), .second, .val (.long j5), .second, .val (.int (own_j0_3_0 i1)), .val (.int (own_j0_16_0 i1)), .val (.long (j2 &&& (9223372036854775807 : Int64))), .second, .val (.long (j3 &&& (9223372036854775807 : Int64))), .second, .val (.long (own_j1_3_0 (j2 &&& (9223372036854775807 : Int64)) (j3 &&& (9223372036854775807 : Int64)))), .second, .unset, .unset, .unset, .unset, .unset, .unset, .unset, .unset]) rfl ?_
    show Steps p.tables e below (T11.setTop (mkF m 49 #[.val (.int i1), .val (.long j2), .second, .val (.long j3), .second, .val (.long j4), .second, .val (.long j5), .second, .val (.int (own_j0_3_0 i1)), .val (.int (own_j0_16_0 i1)), .val (.long (j2 &&& (9223372036854775807 : Int64))), .second, .val (.long (j3 &&& (9223372036854775807 : Int64))), .second, .val (.long (own_j1_3_0 (j2 &&& (9223372036854775807 : Int64)) (j3 &&& (9223372036854775807 : Int64)))), .second, .unset, .unset, .unset, .unset, .unset, .unset, .unset, .unset] [])) _
    refine XS.lload X11.here hx rfl (hb hby at_49) rfl ?_
    show Steps p.tables e below (T11.setTop (mkF m 51 #[.val (.int i1), .val (.long j2), .second, .val (.long j3), .second, .val (.long j4), .second, .val (.long j5), .second, .val (.int (own_j0_3_0 i1)), .val (.int (own_j0_16_0 i1)), .val (.long (j2 &&& (9223372036854775807 : Int64))), .second, .val (.long (j3 &&& (9223372036854775807 : Int64))), .second, .val (.long (own_j1_3_0 (j2 &&& (9223372036854775807 : Int64)) (j3 &&& (9223372036854775807 : Int64)))), .second, .unset, .unset, .unset, .unset, .unset, .unset, .unset, .unset] [(.long (j2 &&& (9223372036854775807 : Int64)))])) _
    refine XS.lload X11.here hx rfl (hb hby at_51) rfl ?_
    show Steps p.tables e below (T11.setTop (mkF m 53 #[.val (.int i1), .val (.long j2), .second, .val (.long j3), .second, .val (.long j4), .second, .val (.long j5), .second, .val (.int (own_j0_3_0 i1)), .val (.int (own_j0_16_0 i1)), .val (.long (j2 &&& (9223372036854775807 : Int64))), .second, .val (.long (j3 &&& (9223372036854775807 : Int64))), .second, .val (.long (own_j1_3_0 (j2 &&& (9223372036854775807 : Int64)) (j3 &&& (9223372036854775807 : Int64)))), .second, .unset, .unset, .unset, .unset, .unset, .unset, .unset, .unset] [(.long (j3 &&& (9223372036854775807 : Int64))), (.long (j2 &&& (9223372036854775807 : Int64)))])) _
    refine st12 _ ?_
    show Steps p.tables e below (T12.setTop (mkF m 56 #[.val (.int i1), .val (.long j2), .second, .val (.long j3), .second, .val (.long j4), .second, .val (.long j5), .second, .val (.int (own_j0_3_0 i1)), .val (.int (own_j0_16_0 i1)), .val (.long (j2 &&& (9223372036854775807 : Int64))), .second, .val (.long (j3 &&& (9223372036854775807 : Int64))), .second, .val (.long (own_j1_3_0 (j2 &&& (9223372036854775807 : Int64)) (j3 &&& (9223372036854775807 : Int64)))), .second, .unset, .unset, .unset, .unset, .unset, .unset, .unset, .unset] [(.long (own_j2_3_0 (j2 &&& (9223372036854775807 : Int64)) (j3 &&& (9223372036854775807 : Int64))))])) _
    refine XS.lstore X12.here hx rfl (hb hby at_56) rfl (l' := #[.val (.int i1), .val (.long j2), .second, .val (.long j3), .second, .val (.long j4), .second, .val (.long j5), .second, .val (.int (own_j0_3_0 i1)), .val (.int (own_j0_16_0 i1)), .val (.long (j2 &&& (9223372036854775807 : Int64))), .second, .val (.long (j3 &&& (9223372036854775807 : Int64))), .second, .val (.long (own_j1_3_0 (j2 &&& (9223372036854775807 : Int64)) (j3 &&& (9223372036854775807 : Int64)))), .second, .val (.long (own_j2_3_0 (j2 &&& (9223372036854775807 : Int64)) (j3 &&& (9223372036854775807 : Int64)))), .second, .unset, .unset, .unset, .unset, .unset, .unset]) rfl ?_
    show Steps p.tables e below (T12.setTop (mkF m 58 #[.val (.int i1), .val (.long j2), .second, .val (.long j3), .second, .val (.long j4), .second, .val (.long j5), .second, .val (.int (own_j0_3_0 i1)), .val (.int (own_j0_16_0 i1)), .val (.long (j2 &&& (9223372036854775807 : Int64))), .second, .val (.long (j3 &&& (9223372036854775807 : Int64))), .second, .val (.long (own_j1_3_0 (j2 &&& (9223372036854775807 : Int64)) (j3 &&& (9223372036854775807 : Int64)))), .second, .val (.long (own_j2_3_0 (j2 &&& (9223372036854775807 : Int64)) (j3 &&& (9223372036854775807 : Int64)))), .second, .unset, .unset, .unset, .unset, .unset, .unset] [])) _
    refine XS.iload X12.here hx rfl (hb hby at_58) rfl ?_
    exact k
  obtain ⟨T18, Lq18, X18, N18, e18, pre18⟩ : ∃ (T' : State) (locs' : List Loc), Stand p l e room_1 s m #[(.int i1), (.long j2), (.long j3), (.long j4), (.long j5)] below meth c T' locs' 0 0 ∧ Fr n0 locs' ∧ T'.heap = h0 ∧ ∀ t, Steps p.tables e below (T'.setTop (mkF m 77 #[.val (.int i1), .val (.long j2), .second, .val (.long j3), .second, .val (.long j4), .second, .val (.long j5), .second, .val (.int (own_j0_3_0 i1)), .val (.int (own_j0_16_0 i1)), .val (.long (j2 &&& (9223372036854775807 : Int64))), .second, .val (.long (j3 &&& (9223372036854775807 : Int64))), .second, .val (.long (own_j1_3_0 (j2 &&& (9223372036854775807 : Int64)) (j3 &&& (9223372036854775807 : Int64)))), .second, .val (.long (own_j2_3_0 (j2 &&& (9223372036854775807 : Int64)) (j3 &&& (9223372036854775807 : Int64)))), .second, .unset, .unset, .unset, .unset, .unset, .unset] [(.long (own_j0_60_0 i1 j4))])) t → Steps p.tables e below (s₁.setTop (entryFrame m #[(.int i1), (.long j2), (.long j3), (.long j4), (.long j5)] maxLocals)) t := by
    by_cases hc60_14 : (own_j0_3_0 i1) = (0 : Int32)
    · obtain ⟨_, _, ⟨T15, L15, k15, n15⟩, -, X15, ⟨Lc15, hQ15, l15, y15, z15⟩, st15⟩ := Jvm.LawKit.callS X12 hx (y := (⟨"java/lang/Math", "max", "(JJ)J"⟩ : MethodName)) hown (mvT hZ (hw _ (List.mem_of_getElem? (i := 1) rfl))) (mvT hZ (hw _ (List.mem_of_getElem? (i := 2) rfl))) (mvT hZ (hw _ (List.mem_of_getElem? (i := 3) rfl))) (mvT hZ (hw _ (List.mem_of_getElem? (i := 4) rfl))) (by decide) (backOf (W := 0) (rm1 l Z a0 hw [] j4 (-1 : Int64) h0 n0 (Nat.le_trans Z0 (Keep.refl h0 []).1) ) hZ (hw _ (List.mem_of_getElem? (i := 4) rfl)) (hw _ (List.mem_of_getElem? (i := 3) rfl)) (by decide) (by decide)) (g := (mkF m 74 #[.val (.int i1), .val (.long j2), .second, .val (.long j3), .second, .val (.long j4), .second, .val (.long j5), .second, .val (.int (own_j0_3_0 i1)), .val (.int (own_j0_16_0 i1)), .val (.long (j2 &&& (9223372036854775807 : Int64))), .second, .val (.long (j3 &&& (9223372036854775807 : Int64))), .second, .val (.long (own_j1_3_0 (j2 &&& (9223372036854775807 : Int64)) (j3 &&& (9223372036854775807 : Int64)))), .second, .val (.long (own_j2_3_0 (j2 &&& (9223372036854775807 : Int64)) (j3 &&& (9223372036854775807 : Int64)))), .second, .unset, .unset, .unset, .unset, .unset, .unset] [(.long (-1 : Int64)), (.long j4)])) rfl (by rw [hml]; rfl) (argsL := [(.long j4), (.long (-1 : Int64))]) (rest := []) (lenOf pd_0 rfl) rfl (by show 2 * 0 + _ ≤ _; exact Nat.le_of_eq rfl) (hb hby at_74) (fun _ _ => ⟨rfl, e12, (by decide : 0 + 0 ≤ _), (by decide : 0 + 0 ≤ _)⟩)
      dsimp only [Pt.U, Pt.locs, Pt.cells, Pt.slots] at X15 l15 y15 z15 st15 hQ15
      subst l15 y15 z15
      obtain ⟨rfl, Nq15, e15⟩ := hQ15
      have N15 := Fr.app N12 Nq15
      have pre16 : ∀ t, Steps p.tables e below (T15.setTop (mkF m 77 #[.val (.int i1), .val (.long j2), .second, .val (.long j3), .second, .val (.long j4), .second, .val (.long j5), .second, .val (.int (own_j0_3_0 i1)), .val (.int (own_j0_16_0 i1)), .val (.long (j2 &&& (9223372036854775807 : Int64))), .second, .val (.long (j3 &&& (9223372036854775807 : Int64))), .second, .val (.long (own_j1_3_0 (j2 &&& (9223372036854775807 : Int64)) (j3 &&& (9223372036854775807 : Int64)))), .second, .val (.long (own_j2_3_0 (j2 &&& (9223372036854775807 : Int64)) (j3 &&& (9223372036854775807 : Int64)))), .second, .unset, .unset, .unset, .unset, .unset, .unset] [(.long (own_j1_3_0 j4 (-1 : Int64)))])) t → Steps p.tables e below (s₁.setTop (entryFrame m #[(.int i1), (.long j2), (.long j3), (.long j4), (.long j5)] maxLocals)) t := by
        intro t k
        refine pre13 _ ?_
        show Steps p.tables e below (T12.setTop (mkF m 60 #[.val (.int i1), .val (.long j2), .second, .val (.long j3), .second, .val (.long j4), .second, .val (.long j5), .second, .val (.int (own_j0_3_0 i1)), .val (.int (own_j0_16_0 i1)), .val (.long (j2 &&& (9223372036854775807 : Int64))), .second, .val (.long (j3 &&& (9223372036854775807 : Int64))), .second, .val (.long (own_j1_3_0 (j2 &&& (9223372036854775807 : Int64)) (j3 &&& (9223372036854775807 : Int64)))), .second, .val (.long (own_j2_3_0 (j2 &&& (9223372036854775807 : Int64)) (j3 &&& (9223372036854775807 : Int64)))), .second, .unset, .unset, .unset, .unset, .unset, .unset] [(.int (own_j0_3_0 i1))])) _
        refine XS.ifYes X12.here hx rfl (pc0 := 60) (pc' := 69) rfl (hb hby at_60) rfl ((if0 _ _).trans (teq hc60_14).1) (by decide) (by decide) ?_
        show Steps p.tables e below (T12.setTop (mkF m 69 #[.val (.int i1), .val (.long j2), .second, .val (.long j3), .second, .val (.long j4), .second, .val (.long j5), .second, .val (.int (own_j0_3_0 i1)), .val (.int (own_j0_16_0 i1)), .val (.long (j2 &&& (9223372036854775807 : Int64))), .second, .val (.long (j3 &&& (9223372036854775807 : Int64))), .second, .val (.long (own_j1_3_0 (j2 &&& (9223372036854775807 : Int64)) (j3 &&& (9223372036854775807 : Int64)))), .second, .val (.long (own_j2_3_0 (j2 &&& (9223372036854775807 : Int64)) (j3 &&& (9223372036854775807 : Int64)))), .second, .unset, .unset, .unset, .unset, .unset, .unset] [])) _
        refine XS.lload X12.here hx rfl (hb hby at_69) rfl ?_
        show Steps p.tables e below (T12.setTop (mkF m 71 #[.val (.int i1), .val (.long j2), .second, .val (.long j3), .second, .val (.long j4), .second, .val (.long j5), .second, .val (.int (own_j0_3_0 i1)), .val (.int (own_j0_16_0 i1)), .val (.long (j2 &&& (9223372036854775807 : Int64))), .second, .val (.long (j3 &&& (9223372036854775807 : Int64))), .second, .val (.long (own_j1_3_0 (j2 &&& (9223372036854775807 : Int64)) (j3 &&& (9223372036854775807 : Int64)))), .second, .val (.long (own_j2_3_0 (j2 &&& (9223372036854775807 : Int64)) (j3 &&& (9223372036854775807 : Int64)))), .second, .unset, .unset, .unset, .unset, .unset, .unset] [(.long j4)])) _
        refine X12.ldc2Long hx hown (mvT hZ (hw _ (List.mem_of_getElem? (i := 8) rfl))) (g := (mkF m 71 #[.val (.int i1), .val (.long j2), .second, .val (.long j3), .second, .val (.long j4), .second, .val (.long j5), .second, .val (.int (own_j0_3_0 i1)), .val (.int (own_j0_16_0 i1)), .val (.long (j2 &&& (9223372036854775807 : Int64))), .second, .val (.long (j3 &&& (9223372036854775807 : Int64))), .second, .val (.long (own_j1_3_0 (j2 &&& (9223372036854775807 : Int64)) (j3 &&& (9223372036854775807 : Int64)))), .second, .val (.long (own_j2_3_0 (j2 &&& (9223372036854775807 : Int64)) (j3 &&& (9223372036854775807 : Int64)))), .second, .unset, .unset, .unset, .unset, .unset, .unset] [(.long j4)])) rfl (hb hby at_71) _ ?_
        show Steps p.tables e below (T12.setTop (mkF m 74 #[.val (.int i1), .val (.long j2), .second, .val (.long j3), .second, .val (.long j4), .second, .val (.long j5), .second, .val (.int (own_j0_3_0 i1)), .val (.int (own_j0_16_0 i1)), .val (.long (j2 &&& (9223372036854775807 : Int64))), .second, .val (.long (j3 &&& (9223372036854775807 : Int64))), .second, .val (.long (own_j1_3_0 (j2 &&& (9223372036854775807 : Int64)) (j3 &&& (9223372036854775807 : Int64)))), .second, .val (.long (own_j2_3_0 (j2 &&& (9223372036854775807 : Int64)) (j3 &&& (9223372036854775807 : Int64)))), .second, .unset, .unset, .unset, .unset, .unset, .unset] [(.long (-1 : Int64)), (.long j4)])) _
        refine st15 _ ?_
        exact k
      exact ⟨T15, _, X15, N15, e15, fun t k => pre16 t (by rw [show (own_j0_60_0 i1 j4) = (own_j1_3_0 j4 (-1 : Int64)) from (if_pos hc60_14)] at k; exact k)⟩
    · have pre17 : ∀ t, Steps p.tables e below (T12.setTop (mkF m 77 #[.val (.int i1), .val (.long j2), .second, .val (.long j3), .second, .val (.long j4), .second, .val (.long j5), .second, .val (.int (own_j0_3_0 i1)), .val (.int (own_j0_16_0 i1)), .val (.long (j2 &&& (9223372036854775807 : Int64))), .second, .val (.long (j3 &&& (9223372036854775807 : Int64))), .second, .val (.long (own_j1_3_0 (j2 &&& (9223372036854775807 : Int64)) (j3 &&& (9223372036854775807 : Int64)))), .second, .val (.long (own_j2_3_0 (j2 &&& (9223372036854775807 : Int64)) (j3 &&& (9223372036854775807 : Int64)))), .second, .unset, .unset, .unset, .unset, .unset, .unset] [(.long (-1 : Int64))])) t → Steps p.tables e below (s₁.setTop (entryFrame m #[(.int i1), (.long j2), (.long j3), (.long j4), (.long j5)] maxLocals)) t := by
        intro t k
        refine pre13 _ ?_
        show Steps p.tables e below (T12.setTop (mkF m 60 #[.val (.int i1), .val (.long j2), .second, .val (.long j3), .second, .val (.long j4), .second, .val (.long j5), .second, .val (.int (own_j0_3_0 i1)), .val (.int (own_j0_16_0 i1)), .val (.long (j2 &&& (9223372036854775807 : Int64))), .second, .val (.long (j3 &&& (9223372036854775807 : Int64))), .second, .val (.long (own_j1_3_0 (j2 &&& (9223372036854775807 : Int64)) (j3 &&& (9223372036854775807 : Int64)))), .second, .val (.long (own_j2_3_0 (j2 &&& (9223372036854775807 : Int64)) (j3 &&& (9223372036854775807 : Int64)))), .second, .unset, .unset, .unset, .unset, .unset, .unset] [(.int (own_j0_3_0 i1))])) _
        refine XS.ifNo X12.here hx rfl (hb hby at_60) rfl ((if0 _ _).trans (feq hc60_14).1) ?_
        show Steps p.tables e below (T12.setTop (mkF m 63 #[.val (.int i1), .val (.long j2), .second, .val (.long j3), .second, .val (.long j4), .second, .val (.long j5), .second, .val (.int (own_j0_3_0 i1)), .val (.int (own_j0_16_0 i1)), .val (.long (j2 &&& (9223372036854775807 : Int64))), .second, .val (.long (j3 &&& (9223372036854775807 : Int64))), .second, .val (.long (own_j1_3_0 (j2 &&& (9223372036854775807 : Int64)) (j3 &&& (9223372036854775807 : Int64)))), .second, .val (.long (own_j2_3_0 (j2 &&& (9223372036854775807 : Int64)) (j3 &&& (9223372036854775807 : Int64)))), .second, .unset, .unset, .unset, .unset, .unset, .unset] [])) _
        refine X12.ldc2Long hx hown (mvT hZ (hw _ (List.mem_of_getElem? (i := 8) rfl))) (g := (mkF m 63 #[.val (.int i1), .val (.long j2), .second, .val (.long j3), .second, .val (.long j4), .second, .val (.long j5), .second, .val (.int (own_j0_3_0 i1)), .val (.int (own_j0_16_0 i1)), .val (.long (j2 &&& (9223372036854775807 : Int64))), .second, .val (.long (j3 &&& (9223372036854775807 : Int64))), .second, .val (.long (own_j1_3_0 (j2 &&& (9223372036854775807 : Int64)) (j3 &&& (9223372036854775807 : Int64)))), .second, .val (.long (own_j2_3_0 (j2 &&& (9223372036854775807 : Int64)) (j3 &&& (9223372036854775807 : Int64)))), .second, .unset, .unset, .unset, .unset, .unset, .unset] [])) rfl (hb hby at_63) _ ?_
        show Steps p.tables e below (T12.setTop (mkF m 66 #[.val (.int i1), .val (.long j2), .second, .val (.long j3), .second, .val (.long j4), .second, .val (.long j5), .second, .val (.int (own_j0_3_0 i1)), .val (.int (own_j0_16_0 i1)), .val (.long (j2 &&& (9223372036854775807 : Int64))), .second, .val (.long (j3 &&& (9223372036854775807 : Int64))), .second, .val (.long (own_j1_3_0 (j2 &&& (9223372036854775807 : Int64)) (j3 &&& (9223372036854775807 : Int64)))), .second, .val (.long (own_j2_3_0 (j2 &&& (9223372036854775807 : Int64)) (j3 &&& (9223372036854775807 : Int64)))), .second, .unset, .unset, .unset, .unset, .unset, .unset] [(.long (-1 : Int64))])) _
        refine XS.goto X12.here hx rfl (pc0 := 66) (pc' := 77) rfl (hb hby at_66) (by decide) (by decide) ?_
        exact k
      exact ⟨T12, _, X12, N12, e12, fun t k => pre17 t (by rw [show (own_j0_60_0 i1 j4) = (-1 : Int64) from (if_neg hc60_14)] at k; exact k)⟩
  obtain ⟨T19, h19, X19, e19, E19, A19, D19, -, st19⟩ := newO X18 hx hZ hown (hw _ (List.mem_of_getElem? (i := 9) rfl)) (hw _ (List.mem_of_getElem? (i := 10) rfl)) (hw _ (List.mem_of_getElem? (i := 11) rfl)) e18 (g := (mkF m 87 #[.val (.int i1), .val (.long j2), .second, .val (.long j3), .second, .val (.long j4), .second, .val (.long j5), .second, .val (.int (own_j0_3_0 i1)), .val (.int (own_j0_16_0 i1)), .val (.long (j2 &&& (9223372036854775807 : Int64))), .second, .val (.long (j3 &&& (9223372036854775807 : Int64))), .second, .val (.long (own_j1_3_0 (j2 &&& (9223372036854775807 : Int64)) (j3 &&& (9223372036854775807 : Int64)))), .second, .val (.long (own_j2_3_0 (j2 &&& (9223372036854775807 : Int64)) (j3 &&& (9223372036854775807 : Int64)))), .second, .val (.long (own_j0_60_0 i1 j4)), .second, .val (.long (j5 &&& (9223372036854775807 : Int64))), .second, .unset, .unset] [])) rfl (hb hby at_87) (by decide) (by decide)
  obtain ⟨b19, g19⟩ : ∃ z, z = h0.size := ⟨_, rfl⟩
  rw [← g19] at A19 D19 st19
  have sz_b19 : h0.size ≤ b19 := Nat.le_trans (Keep.refl h0 []).1 (Nat.le_of_eq g19.symm)
  have K20 : Keep h0 h19 [] := (Keep.refl h0 []).ext E19
  have Fallowed_19 : Fld Z h19 b19 "com/example/burst/burst/Decision" "allowed" "Z" (.int (0 : Int32)) := D19 (Or.inr (hw _ (List.mem_of_getElem? (i := 25) rfl))) (ty := .boolean) (by decide)
  have Flimit_19 : Fld Z h19 b19 "com/example/burst/burst/Decision" "limit" "J" (.long (0 : Int64)) := D19 (Or.inr (hw _ (List.mem_of_getElem? (i := 27) rfl))) (ty := .long) (by decide)
  have Fremaining_19 : Fld Z h19 b19 "com/example/burst/burst/Decision" "remaining" "J" (.long (0 : Int64)) := D19 (Or.inr (hw _ (List.mem_of_getElem? (i := 29) rfl))) (ty := .long) (by decide)
  have FretryAfterMillis_19 : Fld Z h19 b19 "com/example/burst/burst/Decision" "retryAfterMillis" "J" (.long (0 : Int64)) := D19 (Or.inr (hw _ (List.mem_of_getElem? (i := 31) rfl))) (ty := .long) (by decide)
  have FresetAfterMillis_19 : Fld Z h19 b19 "com/example/burst/burst/Decision" "resetAfterMillis" "J" (.long (0 : Int64)) := D19 (Or.inr (hw _ (List.mem_of_getElem? (i := 33) rfl))) (ty := .long) (by decide)
  have Fdegraded_19 : Fld Z h19 b19 "com/example/burst/burst/Decision" "degraded" "Z" (.int (0 : Int32)) := D19 (Or.inr (hw _ (List.mem_of_getElem? (i := 35) rfl))) (ty := .boolean) (by decide)
  obtain ⟨_, _, ⟨T21, L21, k21, n21⟩, -, X21, ⟨Lc21, hQ21, l21, y21, z21⟩, st21⟩ := X19.specialBack hx (y := (⟨"com/example/burst/burst/Decision", "<init>", "(ZJJJJZ)V"⟩ : MethodName)) rfl hown (mvT hZ (hw _ (List.mem_of_getElem? (i := 12) rfl))) (mvT hZ (hw _ (List.mem_of_getElem? (i := 13) rfl))) (mvT hZ (hw _ (List.mem_of_getElem? (i := 14) rfl))) (by decide) (backOf (W := 1) (rm3 l Z a0 hw [] b19 (own_j0_3_0 i1) (own_j1_3_0 (j2 &&& (9223372036854775807 : Int64)) (j3 &&& (9223372036854775807 : Int64))) (own_j2_3_0 (j2 &&& (9223372036854775807 : Int64)) (j3 &&& (9223372036854775807 : Int64))) (own_j0_60_0 i1 j4) (j5 &&& (9223372036854775807 : Int64)) (own_j0_16_0 i1) (.int (0 : Int32)) (.long (0 : Int64)) (.long (0 : Int64)) (.long (0 : Int64)) (.long (0 : Int64)) (.int (0 : Int32)) h19 n0 (Nat.le_trans Z0 K20.1) (own_ob0_g103_0 j2 j3) (own_ob0_g103_1 j2 j3) (own_ob0_g103_2 i1 j4) (own_ob0_g103_3 i1 j4) (own_ob0_g103_4 j5) A19 Fallowed_19 (Nat.le_trans Z0 sz_b19) Flimit_19 Fremaining_19 FretryAfterMillis_19 FresetAfterMillis_19 Fdegraded_19) hZ (hw _ (List.mem_of_getElem? (i := 14) rfl)) (hw _ (List.mem_of_getElem? (i := 11) rfl)) (by decide) (by decide)) (g := (mkF m 103 #[.val (.int i1), .val (.long j2), .second, .val (.long j3), .second, .val (.long j4), .second, .val (.long j5), .second, .val (.int (own_j0_3_0 i1)), .val (.int (own_j0_16_0 i1)), .val (.long (j2 &&& (9223372036854775807 : Int64))), .second, .val (.long (j3 &&& (9223372036854775807 : Int64))), .second, .val (.long (own_j1_3_0 (j2 &&& (9223372036854775807 : Int64)) (j3 &&& (9223372036854775807 : Int64)))), .second, .val (.long (own_j2_3_0 (j2 &&& (9223372036854775807 : Int64)) (j3 &&& (9223372036854775807 : Int64)))), .second, .val (.long (own_j0_60_0 i1 j4)), .second, .val (.long (j5 &&& (9223372036854775807 : Int64))), .second, .unset, .unset] [(.int (own_j0_16_0 i1)), (.long (j5 &&& (9223372036854775807 : Int64))), (.long (own_j0_60_0 i1 j4)), (.long (own_j2_3_0 (j2 &&& (9223372036854775807 : Int64)) (j3 &&& (9223372036854775807 : Int64)))), (.long (own_j1_3_0 (j2 &&& (9223372036854775807 : Int64)) (j3 &&& (9223372036854775807 : Int64)))), (.int (own_j0_3_0 i1)), (.ref b19), (.ref b19)])) rfl (by rw [hml]; rfl) (Steps.refl _) (a := b19) (argsL := [(.int (own_j0_3_0 i1)), (.long (own_j1_3_0 (j2 &&& (9223372036854775807 : Int64)) (j3 &&& (9223372036854775807 : Int64)))), (.long (own_j2_3_0 (j2 &&& (9223372036854775807 : Int64)) (j3 &&& (9223372036854775807 : Int64)))), (.long (own_j0_60_0 i1 j4)), (.long (j5 &&& (9223372036854775807 : Int64))), (.int (own_j0_16_0 i1))]) (rest := [(.ref b19)]) (lenOf pd_2 rfl) rfl (by show 2 * 0 + _ ≤ _; exact Nat.le_of_eq rfl) (hb hby at_103) (fun _ _ => ⟨rfl, e19, (by decide : 1 + 0 ≤ _), (by decide : 6 + 0 ≤ _)⟩)
  dsimp only [Pt.U, Pt.locs, Pt.cells, Pt.slots] at X21 l21 y21 z21 st21 hQ21
  subst l21 y21 z21
  obtain ⟨rfl, Nq21, Kq21, f21_0, f21_1, f21_2, f21_3, f21_4, f21_5, f21_6⟩ := hQ21
  have K22 : Keep h0 T21.heap [] := K20.trans Kq21 (allS (Or.inr sz_b19) all0)
  have N21 := Fr.app N18 Nq21
  obtain ⟨cq23, kq23, q23a, q23b, q23c⟩ := isOf hZ rfl f21_0
  obtain ⟨_, _, ⟨T23, L23, k23, n23⟩, -, X23, ⟨Lc23, hQ23, l23, y23, z23⟩, st23⟩ := X21.virtualBack hx (y := (⟨"com/example/burst/burst/Decision", "asDegraded", "()Lcom/example/burst/burst/Decision;"⟩ : MethodName)) (z := (⟨"com/example/burst/burst/Decision", "asDegraded", "()Lcom/example/burst/burst/Decision;"⟩ : MethodName)) hown (mvT hZ (hw _ (List.mem_of_getElem? (i := 36) rfl))) (mvT hZ (hw _ (List.mem_of_getElem? (i := 37) rfl))) (notFace_of_selects (args := #[]) (mvT hZ (hw _ (List.mem_of_getElem? (i := 39) rfl)))) (mvT hZ (hw _ (List.mem_of_getElem? (i := 39) rfl))) (mvT hZ (hw _ (List.mem_of_getElem? (i := 38) rfl))) (by decide) (backOf (W := 0) (rm6 l Z a0 hw [] b19 (nar .boolean (own_j0_3_0 i1)) (own_j1_3_0 (j2 &&& (9223372036854775807 : Int64)) (j3 &&& (9223372036854775807 : Int64))) (own_j2_3_0 (j2 &&& (9223372036854775807 : Int64)) (j3 &&& (9223372036854775807 : Int64))) (own_j0_60_0 i1 j4) (j5 &&& (9223372036854775807 : Int64)) T21.heap n0 (Nat.le_trans Z0 K22.1) f21_1 f21_2 f21_3 f21_4 f21_5 (own_ob0_g110_5 j2 j3) (own_ob0_g110_6 j2 j3) (own_ob0_g110_7 i1 j4) (own_ob0_g110_8 i1 j4) (own_ob0_g110_9 j5)) hZ (hw _ (List.mem_of_getElem? (i := 40) rfl)) (hw _ (List.mem_of_getElem? (i := 11) rfl)) (by decide) (by decide)) q23a q23c (g := (mkF m 110 #[.val (.int i1), .val (.long j2), .second, .val (.long j3), .second, .val (.long j4), .second, .val (.long j5), .second, .val (.int (own_j0_3_0 i1)), .val (.int (own_j0_16_0 i1)), .val (.long (j2 &&& (9223372036854775807 : Int64))), .second, .val (.long (j3 &&& (9223372036854775807 : Int64))), .second, .val (.long (own_j1_3_0 (j2 &&& (9223372036854775807 : Int64)) (j3 &&& (9223372036854775807 : Int64)))), .second, .val (.long (own_j2_3_0 (j2 &&& (9223372036854775807 : Int64)) (j3 &&& (9223372036854775807 : Int64)))), .second, .val (.long (own_j0_60_0 i1 j4)), .second, .val (.long (j5 &&& (9223372036854775807 : Int64))), .second, .val (.ref b19), .unset] [(.ref b19)])) rfl (by rw [hml]; rfl) (Steps.refl _) (argsL := []) (rest := []) (lenOf pd_3 rfl) rfl (by show 2 * 0 + _ ≤ _; exact Nat.le_of_eq rfl) (hb hby at_110) (fun _ _ => ⟨rfl, rfl, (by decide : 1 + 1 ≤ _), (by decide : 6 + 6 ≤ _)⟩)
  dsimp only [Pt.U, Pt.locs, Pt.cells, Pt.slots] at X23 l23 y23 z23 st23 hQ23
  subst l23 y23 z23
  obtain ⟨b23_0, rfl, Nq23, Kq23, sq23_0, f23_0, f23_1, f23_2, f23_3, f23_4, f23_5, f23_6⟩ := hQ23
  have sz_b23_0 : h0.size ≤ b23_0 := Nat.le_trans K22.1 sq23_0
  have K24 : Keep h0 T23.heap [] := K22.trans Kq23 all0
  have N23 := Fr.app N21 Nq23
  obtain ⟨cq25, kq25, q25a, q25b, q25c⟩ := isOf hZ rfl f23_0
  obtain ⟨_, _, ⟨T25, L25, k25, n25⟩, -, X25, ⟨Lc25, hQ25, l25, y25, z25⟩, st25⟩ := X23.virtualBack hx (y := (⟨"com/example/burst/burst/Decision", "allowed", "()Z"⟩ : MethodName)) (z := (⟨"com/example/burst/burst/Decision", "allowed", "()Z"⟩ : MethodName)) hown (mvT hZ (hw _ (List.mem_of_getElem? (i := 43) rfl))) (mvT hZ (hw _ (List.mem_of_getElem? (i := 44) rfl))) (notFace_of_selects (args := #[]) (mvT hZ (hw _ (List.mem_of_getElem? (i := 46) rfl)))) (mvT hZ (hw _ (List.mem_of_getElem? (i := 46) rfl))) (mvT hZ (hw _ (List.mem_of_getElem? (i := 45) rfl))) (by decide) (backOf (W := 0) (rm7 l Z a0 hw [] b23_0 (nar .boolean (nar .boolean (own_j0_3_0 i1))) T23.heap n0 (Nat.le_trans Z0 K24.1) f23_1) hZ (hw _ (List.mem_of_getElem? (i := 47) rfl)) (hw _ (List.mem_of_getElem? (i := 11) rfl)) (by decide) (by decide)) q25a q25c (g := (mkF m 117 #[.val (.int i1), .val (.long j2), .second, .val (.long j3), .second, .val (.long j4), .second, .val (.long j5), .second, .val (.int (own_j0_3_0 i1)), .val (.int (own_j0_16_0 i1)), .val (.long (j2 &&& (9223372036854775807 : Int64))), .second, .val (.long (j3 &&& (9223372036854775807 : Int64))), .second, .val (.long (own_j1_3_0 (j2 &&& (9223372036854775807 : Int64)) (j3 &&& (9223372036854775807 : Int64)))), .second, .val (.long (own_j2_3_0 (j2 &&& (9223372036854775807 : Int64)) (j3 &&& (9223372036854775807 : Int64)))), .second, .val (.long (own_j0_60_0 i1 j4)), .second, .val (.long (j5 &&& (9223372036854775807 : Int64))), .second, .val (.ref b19), .val (.ref b23_0)] [(.ref b23_0)])) rfl (by rw [hml]; rfl) (Steps.refl _) (argsL := []) (rest := []) (lenOf pd_4 rfl) rfl (by show 2 * 0 + _ ≤ _; exact Nat.le_of_eq rfl) (hb hby at_117) (fun _ _ => ⟨rfl, rfl, (by decide : 2 + 0 ≤ _), (by decide : 12 + 0 ≤ _)⟩)
  dsimp only [Pt.U, Pt.locs, Pt.cells, Pt.slots] at X25 l25 y25 z25 st25 hQ25
  subst l25 y25 z25
  obtain ⟨rfl, Nq25, e25⟩ := hQ25
  have N25 := Fr.app N23 Nq25
  have pre26 : ∀ t, Steps p.tables e below (T25.setTop (mkF m 122 #[.val (.int i1), .val (.long j2), .second, .val (.long j3), .second, .val (.long j4), .second, .val (.long j5), .second, .val (.int (own_j0_3_0 i1)), .val (.int (own_j0_16_0 i1)), .val (.long (j2 &&& (9223372036854775807 : Int64))), .second, .val (.long (j3 &&& (9223372036854775807 : Int64))), .second, .val (.long (own_j1_3_0 (j2 &&& (9223372036854775807 : Int64)) (j3 &&& (9223372036854775807 : Int64)))), .second, .val (.long (own_j2_3_0 (j2 &&& (9223372036854775807 : Int64)) (j3 &&& (9223372036854775807 : Int64)))), .second, .val (.long (own_j0_60_0 i1 j4)), .second, .val (.long (j5 &&& (9223372036854775807 : Int64))), .second, .val (.ref b19), .val (.ref b23_0)] [(.int (own_j0_3_0 i1)), (.int (nar .boolean (nar .boolean (nar .boolean (own_j0_3_0 i1)))))])) t → Steps p.tables e below (s₁.setTop (entryFrame m #[(.int i1), (.long j2), (.long j3), (.long j4), (.long j5)] maxLocals)) t := by
    intro t k
    refine pre18 _ ?_
    show Steps p.tables e below (T18.setTop (mkF m 77 #[.val (.int i1), .val (.long j2), .second, .val (.long j3), .second, .val (.long j4), .second, .val (.long j5), .second, .val (.int (own_j0_3_0 i1)), .val (.int (own_j0_16_0 i1)), .val (.long (j2 &&& (9223372036854775807 : Int64))), .second, .val (.long (j3 &&& (9223372036854775807 : Int64))), .second, .val (.long (own_j1_3_0 (j2 &&& (9223372036854775807 : Int64)) (j3 &&& (9223372036854775807 : Int64)))), .second, .val (.long (own_j2_3_0 (j2 &&& (9223372036854775807 : Int64)) (j3 &&& (9223372036854775807 : Int64)))), .second, .unset, .unset, .unset, .unset, .unset, .unset] [(.long (own_j0_60_0 i1 j4))])) _
    refine XS.lstore X18.here hx rfl (hb hby at_77) rfl (l' := #[.val (.int i1), .val (.long j2), .second, .val (.long j3), .second, .val (.long j4), .second, .val (.long j5), .second, .val (.int (own_j0_3_0 i1)), .val (.int (own_j0_16_0 i1)), .val (.long (j2 &&& (9223372036854775807 : Int64))), .second, .val (.long (j3 &&& (9223372036854775807 : Int64))), .second, .val (.long (own_j1_3_0 (j2 &&& (9223372036854775807 : Int64)) (j3 &&& (9223372036854775807 : Int64)))), .second, .val (.long (own_j2_3_0 (j2 &&& (9223372036854775807 : Int64)) (j3 &&& (9223372036854775807 : Int64)))), .second, .val (.long (own_j0_60_0 i1 j4)), .second, .unset, .unset, .unset, .unset]) rfl ?_
    show Steps p.tables e below (T18.setTop (mkF m 79 #[.val (.int i1), .val (.long j2), .second, .val (.long j3), .second, .val (.long j4), .second, .val (.long j5), .second, .val (.int (own_j0_3_0 i1)), .val (.int (own_j0_16_0 i1)), .val (.long (j2 &&& (9223372036854775807 : Int64))), .second, .val (.long (j3 &&& (9223372036854775807 : Int64))), .second, .val (.long (own_j1_3_0 (j2 &&& (9223372036854775807 : Int64)) (j3 &&& (9223372036854775807 : Int64)))), .second, .val (.long (own_j2_3_0 (j2 &&& (9223372036854775807 : Int64)) (j3 &&& (9223372036854775807 : Int64)))), .second, .val (.long (own_j0_60_0 i1 j4)), .second, .unset, .unset, .unset, .unset] [])) _
    refine XS.lload X18.here hx rfl (hb hby at_79) rfl ?_
    show Steps p.tables e below (T18.setTop (mkF m 81 #[.val (.int i1), .val (.long j2), .second, .val (.long j3), .second, .val (.long j4), .second, .val (.long j5), .second, .val (.int (own_j0_3_0 i1)), .val (.int (own_j0_16_0 i1)), .val (.long (j2 &&& (9223372036854775807 : Int64))), .second, .val (.long (j3 &&& (9223372036854775807 : Int64))), .second, .val (.long (own_j1_3_0 (j2 &&& (9223372036854775807 : Int64)) (j3 &&& (9223372036854775807 : Int64)))), .second, .val (.long (own_j2_3_0 (j2 &&& (9223372036854775807 : Int64)) (j3 &&& (9223372036854775807 : Int64)))), .second, .val (.long (own_j0_60_0 i1 j4)), .second, .unset, .unset, .unset, .unset] [(.long j5)])) _
    refine X18.ldc2Long hx hown (mvT hZ (hw _ (List.mem_of_getElem? (i := 0) rfl))) (g := (mkF m 81 #[.val (.int i1), .val (.long j2), .second, .val (.long j3), .second, .val (.long j4), .second, .val (.long j5), .second, .val (.int (own_j0_3_0 i1)), .val (.int (own_j0_16_0 i1)), .val (.long (j2 &&& (9223372036854775807 : Int64))), .second, .val (.long (j3 &&& (9223372036854775807 : Int64))), .second, .val (.long (own_j1_3_0 (j2 &&& (9223372036854775807 : Int64)) (j3 &&& (9223372036854775807 : Int64)))), .second, .val (.long (own_j2_3_0 (j2 &&& (9223372036854775807 : Int64)) (j3 &&& (9223372036854775807 : Int64)))), .second, .val (.long (own_j0_60_0 i1 j4)), .second, .unset, .unset, .unset, .unset] [(.long j5)])) rfl (hb hby at_81) _ ?_
    show Steps p.tables e below (T18.setTop (mkF m 84 #[.val (.int i1), .val (.long j2), .second, .val (.long j3), .second, .val (.long j4), .second, .val (.long j5), .second, .val (.int (own_j0_3_0 i1)), .val (.int (own_j0_16_0 i1)), .val (.long (j2 &&& (9223372036854775807 : Int64))), .second, .val (.long (j3 &&& (9223372036854775807 : Int64))), .second, .val (.long (own_j1_3_0 (j2 &&& (9223372036854775807 : Int64)) (j3 &&& (9223372036854775807 : Int64)))), .second, .val (.long (own_j2_3_0 (j2 &&& (9223372036854775807 : Int64)) (j3 &&& (9223372036854775807 : Int64)))), .second, .val (.long (own_j0_60_0 i1 j4)), .second, .unset, .unset, .unset, .unset] [(.long (9223372036854775807 : Int64)), (.long j5)])) _
    refine XS.land X18.here hx rfl (hb hby at_84) rfl ?_
    show Steps p.tables e below (T18.setTop (mkF m 85 #[.val (.int i1), .val (.long j2), .second, .val (.long j3), .second, .val (.long j4), .second, .val (.long j5), .second, .val (.int (own_j0_3_0 i1)), .val (.int (own_j0_16_0 i1)), .val (.long (j2 &&& (9223372036854775807 : Int64))), .second, .val (.long (j3 &&& (9223372036854775807 : Int64))), .second, .val (.long (own_j1_3_0 (j2 &&& (9223372036854775807 : Int64)) (j3 &&& (9223372036854775807 : Int64)))), .second, .val (.long (own_j2_3_0 (j2 &&& (9223372036854775807 : Int64)) (j3 &&& (9223372036854775807 : Int64)))), .second, .val (.long (own_j0_60_0 i1 j4)), .second, .unset, .unset, .unset, .unset] [(.long (j5 &&& (9223372036854775807 : Int64)))])) _
    refine XS.lstore X18.here hx rfl (hb hby at_85) rfl (l' := #[.val (.int i1), .val (.long j2), .second, .val (.long j3), .second, .val (.long j4), .second, .val (.long j5), .second, .val (.int (own_j0_3_0 i1)), .val (.int (own_j0_16_0 i1)), .val (.long (j2 &&& (9223372036854775807 : Int64))), .second, .val (.long (j3 &&& (9223372036854775807 : Int64))), .second, .val (.long (own_j1_3_0 (j2 &&& (9223372036854775807 : Int64)) (j3 &&& (9223372036854775807 : Int64)))), .second, .val (.long (own_j2_3_0 (j2 &&& (9223372036854775807 : Int64)) (j3 &&& (9223372036854775807 : Int64)))), .second, .val (.long (own_j0_60_0 i1 j4)), .second, .val (.long (j5 &&& (9223372036854775807 : Int64))), .second, .unset, .unset]) rfl ?_
    show Steps p.tables e below (T18.setTop (mkF m 87 #[.val (.int i1), .val (.long j2), .second, .val (.long j3), .second, .val (.long j4), .second, .val (.long j5), .second, .val (.int (own_j0_3_0 i1)), .val (.int (own_j0_16_0 i1)), .val (.long (j2 &&& (9223372036854775807 : Int64))), .second, .val (.long (j3 &&& (9223372036854775807 : Int64))), .second, .val (.long (own_j1_3_0 (j2 &&& (9223372036854775807 : Int64)) (j3 &&& (9223372036854775807 : Int64)))), .second, .val (.long (own_j2_3_0 (j2 &&& (9223372036854775807 : Int64)) (j3 &&& (9223372036854775807 : Int64)))), .second, .val (.long (own_j0_60_0 i1 j4)), .second, .val (.long (j5 &&& (9223372036854775807 : Int64))), .second, .unset, .unset] [])) _
    refine st19 _ ?_
    show Steps p.tables e below (T19.setTop (mkF m 90 #[.val (.int i1), .val (.long j2), .second, .val (.long j3), .second, .val (.long j4), .second, .val (.long j5), .second, .val (.int (own_j0_3_0 i1)), .val (.int (own_j0_16_0 i1)), .val (.long (j2 &&& (9223372036854775807 : Int64))), .second, .val (.long (j3 &&& (9223372036854775807 : Int64))), .second, .val (.long (own_j1_3_0 (j2 &&& (9223372036854775807 : Int64)) (j3 &&& (9223372036854775807 : Int64)))), .second, .val (.long (own_j2_3_0 (j2 &&& (9223372036854775807 : Int64)) (j3 &&& (9223372036854775807 : Int64)))), .second, .val (.long (own_j0_60_0 i1 j4)), .second, .val (.long (j5 &&& (9223372036854775807 : Int64))), .second, .unset, .unset] [(.ref b19)])) _
    refine XS.dup X19.here hx rfl (hb hby at_90) rfl rfl ?_
    show Steps p.tables e below (T19.setTop (mkF m 91 #[.val (.int i1), .val (.long j2), .second, .val (.long j3), .second, .val (.long j4), .second, .val (.long j5), .second, .val (.int (own_j0_3_0 i1)), .val (.int (own_j0_16_0 i1)), .val (.long (j2 &&& (9223372036854775807 : Int64))), .second, .val (.long (j3 &&& (9223372036854775807 : Int64))), .second, .val (.long (own_j1_3_0 (j2 &&& (9223372036854775807 : Int64)) (j3 &&& (9223372036854775807 : Int64)))), .second, .val (.long (own_j2_3_0 (j2 &&& (9223372036854775807 : Int64)) (j3 &&& (9223372036854775807 : Int64)))), .second, .val (.long (own_j0_60_0 i1 j4)), .second, .val (.long (j5 &&& (9223372036854775807 : Int64))), .second, .unset, .unset] [(.ref b19), (.ref b19)])) _
    refine XS.iload X19.here hx rfl (hb hby at_91) rfl ?_
    show Steps p.tables e below (T19.setTop (mkF m 93 #[.val (.int i1), .val (.long j2), .second, .val (.long j3), .second, .val (.long j4), .second, .val (.long j5), .second, .val (.int (own_j0_3_0 i1)), .val (.int (own_j0_16_0 i1)), .val (.long (j2 &&& (9223372036854775807 : Int64))), .second, .val (.long (j3 &&& (9223372036854775807 : Int64))), .second, .val (.long (own_j1_3_0 (j2 &&& (9223372036854775807 : Int64)) (j3 &&& (9223372036854775807 : Int64)))), .second, .val (.long (own_j2_3_0 (j2 &&& (9223372036854775807 : Int64)) (j3 &&& (9223372036854775807 : Int64)))), .second, .val (.long (own_j0_60_0 i1 j4)), .second, .val (.long (j5 &&& (9223372036854775807 : Int64))), .second, .unset, .unset] [(.int (own_j0_3_0 i1)), (.ref b19), (.ref b19)])) _
    refine XS.lload X19.here hx rfl (hb hby at_93) rfl ?_
    show Steps p.tables e below (T19.setTop (mkF m 95 #[.val (.int i1), .val (.long j2), .second, .val (.long j3), .second, .val (.long j4), .second, .val (.long j5), .second, .val (.int (own_j0_3_0 i1)), .val (.int (own_j0_16_0 i1)), .val (.long (j2 &&& (9223372036854775807 : Int64))), .second, .val (.long (j3 &&& (9223372036854775807 : Int64))), .second, .val (.long (own_j1_3_0 (j2 &&& (9223372036854775807 : Int64)) (j3 &&& (9223372036854775807 : Int64)))), .second, .val (.long (own_j2_3_0 (j2 &&& (9223372036854775807 : Int64)) (j3 &&& (9223372036854775807 : Int64)))), .second, .val (.long (own_j0_60_0 i1 j4)), .second, .val (.long (j5 &&& (9223372036854775807 : Int64))), .second, .unset, .unset] [(.long (own_j1_3_0 (j2 &&& (9223372036854775807 : Int64)) (j3 &&& (9223372036854775807 : Int64)))), (.int (own_j0_3_0 i1)), (.ref b19), (.ref b19)])) _
    refine XS.lload X19.here hx rfl (hb hby at_95) rfl ?_
    show Steps p.tables e below (T19.setTop (mkF m 97 #[.val (.int i1), .val (.long j2), .second, .val (.long j3), .second, .val (.long j4), .second, .val (.long j5), .second, .val (.int (own_j0_3_0 i1)), .val (.int (own_j0_16_0 i1)), .val (.long (j2 &&& (9223372036854775807 : Int64))), .second, .val (.long (j3 &&& (9223372036854775807 : Int64))), .second, .val (.long (own_j1_3_0 (j2 &&& (9223372036854775807 : Int64)) (j3 &&& (9223372036854775807 : Int64)))), .second, .val (.long (own_j2_3_0 (j2 &&& (9223372036854775807 : Int64)) (j3 &&& (9223372036854775807 : Int64)))), .second, .val (.long (own_j0_60_0 i1 j4)), .second, .val (.long (j5 &&& (9223372036854775807 : Int64))), .second, .unset, .unset] [(.long (own_j2_3_0 (j2 &&& (9223372036854775807 : Int64)) (j3 &&& (9223372036854775807 : Int64)))), (.long (own_j1_3_0 (j2 &&& (9223372036854775807 : Int64)) (j3 &&& (9223372036854775807 : Int64)))), (.int (own_j0_3_0 i1)), (.ref b19), (.ref b19)])) _
    refine XS.lload X19.here hx rfl (hb hby at_97) rfl ?_
    show Steps p.tables e below (T19.setTop (mkF m 99 #[.val (.int i1), .val (.long j2), .second, .val (.long j3), .second, .val (.long j4), .second, .val (.long j5), .second, .val (.int (own_j0_3_0 i1)), .val (.int (own_j0_16_0 i1)), .val (.long (j2 &&& (9223372036854775807 : Int64))), .second, .val (.long (j3 &&& (9223372036854775807 : Int64))), .second, .val (.long (own_j1_3_0 (j2 &&& (9223372036854775807 : Int64)) (j3 &&& (9223372036854775807 : Int64)))), .second, .val (.long (own_j2_3_0 (j2 &&& (9223372036854775807 : Int64)) (j3 &&& (9223372036854775807 : Int64)))), .second, .val (.long (own_j0_60_0 i1 j4)), .second, .val (.long (j5 &&& (9223372036854775807 : Int64))), .second, .unset, .unset] [(.long (own_j0_60_0 i1 j4)), (.long (own_j2_3_0 (j2 &&& (9223372036854775807 : Int64)) (j3 &&& (9223372036854775807 : Int64)))), (.long (own_j1_3_0 (j2 &&& (9223372036854775807 : Int64)) (j3 &&& (9223372036854775807 : Int64)))), (.int (own_j0_3_0 i1)), (.ref b19), (.ref b19)])) _
    refine XS.lload X19.here hx rfl (hb hby at_99) rfl ?_
    show Steps p.tables e below (T19.setTop (mkF m 101 #[.val (.int i1), .val (.long j2), .second, .val (.long j3), .second, .val (.long j4), .second, .val (.long j5), .second, .val (.int (own_j0_3_0 i1)), .val (.int (own_j0_16_0 i1)), .val (.long (j2 &&& (9223372036854775807 : Int64))), .second, .val (.long (j3 &&& (9223372036854775807 : Int64))), .second, .val (.long (own_j1_3_0 (j2 &&& (9223372036854775807 : Int64)) (j3 &&& (9223372036854775807 : Int64)))), .second, .val (.long (own_j2_3_0 (j2 &&& (9223372036854775807 : Int64)) (j3 &&& (9223372036854775807 : Int64)))), .second, .val (.long (own_j0_60_0 i1 j4)), .second, .val (.long (j5 &&& (9223372036854775807 : Int64))), .second, .unset, .unset] [(.long (j5 &&& (9223372036854775807 : Int64))), (.long (own_j0_60_0 i1 j4)), (.long (own_j2_3_0 (j2 &&& (9223372036854775807 : Int64)) (j3 &&& (9223372036854775807 : Int64)))), (.long (own_j1_3_0 (j2 &&& (9223372036854775807 : Int64)) (j3 &&& (9223372036854775807 : Int64)))), (.int (own_j0_3_0 i1)), (.ref b19), (.ref b19)])) _
    refine XS.iload X19.here hx rfl (hb hby at_101) rfl ?_
    show Steps p.tables e below (T19.setTop (mkF m 103 #[.val (.int i1), .val (.long j2), .second, .val (.long j3), .second, .val (.long j4), .second, .val (.long j5), .second, .val (.int (own_j0_3_0 i1)), .val (.int (own_j0_16_0 i1)), .val (.long (j2 &&& (9223372036854775807 : Int64))), .second, .val (.long (j3 &&& (9223372036854775807 : Int64))), .second, .val (.long (own_j1_3_0 (j2 &&& (9223372036854775807 : Int64)) (j3 &&& (9223372036854775807 : Int64)))), .second, .val (.long (own_j2_3_0 (j2 &&& (9223372036854775807 : Int64)) (j3 &&& (9223372036854775807 : Int64)))), .second, .val (.long (own_j0_60_0 i1 j4)), .second, .val (.long (j5 &&& (9223372036854775807 : Int64))), .second, .unset, .unset] [(.int (own_j0_16_0 i1)), (.long (j5 &&& (9223372036854775807 : Int64))), (.long (own_j0_60_0 i1 j4)), (.long (own_j2_3_0 (j2 &&& (9223372036854775807 : Int64)) (j3 &&& (9223372036854775807 : Int64)))), (.long (own_j1_3_0 (j2 &&& (9223372036854775807 : Int64)) (j3 &&& (9223372036854775807 : Int64)))), (.int (own_j0_3_0 i1)), (.ref b19), (.ref b19)])) _
    refine st21.trans ?_
    show Steps p.tables e below (T21.setTop (mkF m 106 #[.val (.int i1), .val (.long j2), .second, .val (.long j3), .second, .val (.long j4), .second, .val (.long j5), .second, .val (.int (own_j0_3_0 i1)), .val (.int (own_j0_16_0 i1)), .val (.long (j2 &&& (9223372036854775807 : Int64))), .second, .val (.long (j3 &&& (9223372036854775807 : Int64))), .second, .val (.long (own_j1_3_0 (j2 &&& (9223372036854775807 : Int64)) (j3 &&& (9223372036854775807 : Int64)))), .second, .val (.long (own_j2_3_0 (j2 &&& (9223372036854775807 : Int64)) (j3 &&& (9223372036854775807 : Int64)))), .second, .val (.long (own_j0_60_0 i1 j4)), .second, .val (.long (j5 &&& (9223372036854775807 : Int64))), .second, .unset, .unset] [(.ref b19)])) _
    refine XS.astore X21.here hx rfl (hb hby at_106) rfl rfl (l' := #[.val (.int i1), .val (.long j2), .second, .val (.long j3), .second, .val (.long j4), .second, .val (.long j5), .second, .val (.int (own_j0_3_0 i1)), .val (.int (own_j0_16_0 i1)), .val (.long (j2 &&& (9223372036854775807 : Int64))), .second, .val (.long (j3 &&& (9223372036854775807 : Int64))), .second, .val (.long (own_j1_3_0 (j2 &&& (9223372036854775807 : Int64)) (j3 &&& (9223372036854775807 : Int64)))), .second, .val (.long (own_j2_3_0 (j2 &&& (9223372036854775807 : Int64)) (j3 &&& (9223372036854775807 : Int64)))), .second, .val (.long (own_j0_60_0 i1 j4)), .second, .val (.long (j5 &&& (9223372036854775807 : Int64))), .second, .val (.ref b19), .unset]) rfl ?_
    show Steps p.tables e below (T21.setTop (mkF m 108 #[.val (.int i1), .val (.long j2), .second, .val (.long j3), .second, .val (.long j4), .second, .val (.long j5), .second, .val (.int (own_j0_3_0 i1)), .val (.int (own_j0_16_0 i1)), .val (.long (j2 &&& (9223372036854775807 : Int64))), .second, .val (.long (j3 &&& (9223372036854775807 : Int64))), .second, .val (.long (own_j1_3_0 (j2 &&& (9223372036854775807 : Int64)) (j3 &&& (9223372036854775807 : Int64)))), .second, .val (.long (own_j2_3_0 (j2 &&& (9223372036854775807 : Int64)) (j3 &&& (9223372036854775807 : Int64)))), .second, .val (.long (own_j0_60_0 i1 j4)), .second, .val (.long (j5 &&& (9223372036854775807 : Int64))), .second, .val (.ref b19), .unset] [])) _
    refine XS.aload X21.here hx rfl (hb hby at_108) rfl rfl ?_
    show Steps p.tables e below (T21.setTop (mkF m 110 #[.val (.int i1), .val (.long j2), .second, .val (.long j3), .second, .val (.long j4), .second, .val (.long j5), .second, .val (.int (own_j0_3_0 i1)), .val (.int (own_j0_16_0 i1)), .val (.long (j2 &&& (9223372036854775807 : Int64))), .second, .val (.long (j3 &&& (9223372036854775807 : Int64))), .second, .val (.long (own_j1_3_0 (j2 &&& (9223372036854775807 : Int64)) (j3 &&& (9223372036854775807 : Int64)))), .second, .val (.long (own_j2_3_0 (j2 &&& (9223372036854775807 : Int64)) (j3 &&& (9223372036854775807 : Int64)))), .second, .val (.long (own_j0_60_0 i1 j4)), .second, .val (.long (j5 &&& (9223372036854775807 : Int64))), .second, .val (.ref b19), .unset] [(.ref b19)])) _
    refine st23.trans ?_
    show Steps p.tables e below (T23.setTop (mkF m 113 #[.val (.int i1), .val (.long j2), .second, .val (.long j3), .second, .val (.long j4), .second, .val (.long j5), .second, .val (.int (own_j0_3_0 i1)), .val (.int (own_j0_16_0 i1)), .val (.long (j2 &&& (9223372036854775807 : Int64))), .second, .val (.long (j3 &&& (9223372036854775807 : Int64))), .second, .val (.long (own_j1_3_0 (j2 &&& (9223372036854775807 : Int64)) (j3 &&& (9223372036854775807 : Int64)))), .second, .val (.long (own_j2_3_0 (j2 &&& (9223372036854775807 : Int64)) (j3 &&& (9223372036854775807 : Int64)))), .second, .val (.long (own_j0_60_0 i1 j4)), .second, .val (.long (j5 &&& (9223372036854775807 : Int64))), .second, .val (.ref b19), .unset] [(.ref b23_0)])) _
    refine XS.astore X23.here hx rfl (hb hby at_113) rfl rfl (l' := #[.val (.int i1), .val (.long j2), .second, .val (.long j3), .second, .val (.long j4), .second, .val (.long j5), .second, .val (.int (own_j0_3_0 i1)), .val (.int (own_j0_16_0 i1)), .val (.long (j2 &&& (9223372036854775807 : Int64))), .second, .val (.long (j3 &&& (9223372036854775807 : Int64))), .second, .val (.long (own_j1_3_0 (j2 &&& (9223372036854775807 : Int64)) (j3 &&& (9223372036854775807 : Int64)))), .second, .val (.long (own_j2_3_0 (j2 &&& (9223372036854775807 : Int64)) (j3 &&& (9223372036854775807 : Int64)))), .second, .val (.long (own_j0_60_0 i1 j4)), .second, .val (.long (j5 &&& (9223372036854775807 : Int64))), .second, .val (.ref b19), .val (.ref b23_0)]) rfl ?_
    show Steps p.tables e below (T23.setTop (mkF m 115 #[.val (.int i1), .val (.long j2), .second, .val (.long j3), .second, .val (.long j4), .second, .val (.long j5), .second, .val (.int (own_j0_3_0 i1)), .val (.int (own_j0_16_0 i1)), .val (.long (j2 &&& (9223372036854775807 : Int64))), .second, .val (.long (j3 &&& (9223372036854775807 : Int64))), .second, .val (.long (own_j1_3_0 (j2 &&& (9223372036854775807 : Int64)) (j3 &&& (9223372036854775807 : Int64)))), .second, .val (.long (own_j2_3_0 (j2 &&& (9223372036854775807 : Int64)) (j3 &&& (9223372036854775807 : Int64)))), .second, .val (.long (own_j0_60_0 i1 j4)), .second, .val (.long (j5 &&& (9223372036854775807 : Int64))), .second, .val (.ref b19), .val (.ref b23_0)] [])) _
    refine XS.aload X23.here hx rfl (hb hby at_115) rfl rfl ?_
    show Steps p.tables e below (T23.setTop (mkF m 117 #[.val (.int i1), .val (.long j2), .second, .val (.long j3), .second, .val (.long j4), .second, .val (.long j5), .second, .val (.int (own_j0_3_0 i1)), .val (.int (own_j0_16_0 i1)), .val (.long (j2 &&& (9223372036854775807 : Int64))), .second, .val (.long (j3 &&& (9223372036854775807 : Int64))), .second, .val (.long (own_j1_3_0 (j2 &&& (9223372036854775807 : Int64)) (j3 &&& (9223372036854775807 : Int64)))), .second, .val (.long (own_j2_3_0 (j2 &&& (9223372036854775807 : Int64)) (j3 &&& (9223372036854775807 : Int64)))), .second, .val (.long (own_j0_60_0 i1 j4)), .second, .val (.long (j5 &&& (9223372036854775807 : Int64))), .second, .val (.ref b19), .val (.ref b23_0)] [(.ref b23_0)])) _
    refine st25.trans ?_
    show Steps p.tables e below (T25.setTop (mkF m 120 #[.val (.int i1), .val (.long j2), .second, .val (.long j3), .second, .val (.long j4), .second, .val (.long j5), .second, .val (.int (own_j0_3_0 i1)), .val (.int (own_j0_16_0 i1)), .val (.long (j2 &&& (9223372036854775807 : Int64))), .second, .val (.long (j3 &&& (9223372036854775807 : Int64))), .second, .val (.long (own_j1_3_0 (j2 &&& (9223372036854775807 : Int64)) (j3 &&& (9223372036854775807 : Int64)))), .second, .val (.long (own_j2_3_0 (j2 &&& (9223372036854775807 : Int64)) (j3 &&& (9223372036854775807 : Int64)))), .second, .val (.long (own_j0_60_0 i1 j4)), .second, .val (.long (j5 &&& (9223372036854775807 : Int64))), .second, .val (.ref b19), .val (.ref b23_0)] [(.int (nar .boolean (nar .boolean (nar .boolean (own_j0_3_0 i1)))))])) _
    refine XS.iload X25.here hx rfl (hb hby at_120) rfl ?_
    exact k
  obtain ⟨T44, Lq44, X44, N44, e44, pre44⟩ : ∃ (T' : State) (locs' : List Loc), Stand p l e room_1 s m #[(.int i1), (.long j2), (.long j3), (.long j4), (.long j5)] below meth c T' locs' 2 12 ∧ Fr n0 locs' ∧ T'.heap = T23.heap ∧ ∀ t, Steps p.tables e below (T'.setTop (mkF m 192 #[.val (.int i1), .val (.long j2), .second, .val (.long j3), .second, .val (.long j4), .second, .val (.long j5), .second, .val (.int (own_j0_3_0 i1)), .val (.int (own_j0_16_0 i1)), .val (.long (j2 &&& (9223372036854775807 : Int64))), .second, .val (.long (j3 &&& (9223372036854775807 : Int64))), .second, .val (.long (own_j1_3_0 (j2 &&& (9223372036854775807 : Int64)) (j3 &&& (9223372036854775807 : Int64)))), .second, .val (.long (own_j2_3_0 (j2 &&& (9223372036854775807 : Int64)) (j3 &&& (9223372036854775807 : Int64)))), .second, .val (.long (own_j0_60_0 i1 j4)), .second, .val (.long (j5 &&& (9223372036854775807 : Int64))), .second, .val (.ref b19), .val (.ref b23_0)] [(.int (own_j0_122_0 i1))])) t → Steps p.tables e below (s₁.setTop (entryFrame m #[(.int i1), (.long j2), (.long j3), (.long j4), (.long j5)] maxLocals)) t := by
    by_cases hc122_27 : (nar .boolean (nar .boolean (nar .boolean (own_j0_3_0 i1)))) = (own_j0_3_0 i1)
    · obtain ⟨cq28, kq28, q28a, q28b, q28c⟩ := isOf hZ e25 f23_0
      obtain ⟨_, _, ⟨T28, L28, k28, n28⟩, -, X28, ⟨Lc28, hQ28, l28, y28, z28⟩, st28⟩ := X25.virtualBack hx (y := (⟨"com/example/burst/burst/Decision", "limit", "()J"⟩ : MethodName)) (z := (⟨"com/example/burst/burst/Decision", "limit", "()J"⟩ : MethodName)) hown (mvT hZ (hw _ (List.mem_of_getElem? (i := 48) rfl))) (mvT hZ (hw _ (List.mem_of_getElem? (i := 49) rfl))) (notFace_of_selects (args := #[]) (mvT hZ (hw _ (List.mem_of_getElem? (i := 51) rfl)))) (mvT hZ (hw _ (List.mem_of_getElem? (i := 51) rfl))) (mvT hZ (hw _ (List.mem_of_getElem? (i := 50) rfl))) (by decide) (backOf (W := 0) (rm8 l Z a0 hw [] b23_0 (own_j1_3_0 (j2 &&& (9223372036854775807 : Int64)) (j3 &&& (9223372036854775807 : Int64))) T23.heap n0 (Nat.le_trans Z0 K24.1) f23_2) hZ (hw _ (List.mem_of_getElem? (i := 52) rfl)) (hw _ (List.mem_of_getElem? (i := 11) rfl)) (by decide) (by decide)) q28a q28c (g := (mkF m 127 #[.val (.int i1), .val (.long j2), .second, .val (.long j3), .second, .val (.long j4), .second, .val (.long j5), .second, .val (.int (own_j0_3_0 i1)), .val (.int (own_j0_16_0 i1)), .val (.long (j2 &&& (9223372036854775807 : Int64))), .second, .val (.long (j3 &&& (9223372036854775807 : Int64))), .second, .val (.long (own_j1_3_0 (j2 &&& (9223372036854775807 : Int64)) (j3 &&& (9223372036854775807 : Int64)))), .second, .val (.long (own_j2_3_0 (j2 &&& (9223372036854775807 : Int64)) (j3 &&& (9223372036854775807 : Int64)))), .second, .val (.long (own_j0_60_0 i1 j4)), .second, .val (.long (j5 &&& (9223372036854775807 : Int64))), .second, .val (.ref b19), .val (.ref b23_0)] [(.ref b23_0)])) rfl (by rw [hml]; rfl) (Steps.refl _) (argsL := []) (rest := []) (lenOf pd_5 rfl) rfl (by show 2 * 0 + _ ≤ _; exact Nat.le_of_eq rfl) (hb hby at_127) (fun _ _ => ⟨rfl, e25, (by decide : 2 + 0 ≤ _), (by decide : 12 + 0 ≤ _)⟩)
      dsimp only [Pt.U, Pt.locs, Pt.cells, Pt.slots] at X28 l28 y28 z28 st28 hQ28
      subst l28 y28 z28
      obtain ⟨rfl, Nq28, e28⟩ := hQ28
      have N28 := Fr.app N25 Nq28
      obtain ⟨cq29, kq29, q29a, q29b, q29c⟩ := isOf hZ e28 f23_0
      obtain ⟨_, _, ⟨T29, L29, k29, n29⟩, -, X29, ⟨Lc29, hQ29, l29, y29, z29⟩, st29⟩ := X28.virtualBack hx (y := (⟨"com/example/burst/burst/Decision", "remaining", "()J"⟩ : MethodName)) (z := (⟨"com/example/burst/burst/Decision", "remaining", "()J"⟩ : MethodName)) hown (mvT hZ (hw _ (List.mem_of_getElem? (i := 53) rfl))) (mvT hZ (hw _ (List.mem_of_getElem? (i := 54) rfl))) (notFace_of_selects (args := #[]) (mvT hZ (hw _ (List.mem_of_getElem? (i := 56) rfl)))) (mvT hZ (hw _ (List.mem_of_getElem? (i := 56) rfl))) (mvT hZ (hw _ (List.mem_of_getElem? (i := 55) rfl))) (by decide) (backOf (W := 0) (rm9 l Z a0 hw [] b23_0 (own_j2_3_0 (j2 &&& (9223372036854775807 : Int64)) (j3 &&& (9223372036854775807 : Int64))) T23.heap n0 (Nat.le_trans Z0 K24.1) f23_3) hZ (hw _ (List.mem_of_getElem? (i := 57) rfl)) (hw _ (List.mem_of_getElem? (i := 11) rfl)) (by decide) (by decide)) q29a q29c (g := (mkF m 138 #[.val (.int i1), .val (.long j2), .second, .val (.long j3), .second, .val (.long j4), .second, .val (.long j5), .second, .val (.int (own_j0_3_0 i1)), .val (.int (own_j0_16_0 i1)), .val (.long (j2 &&& (9223372036854775807 : Int64))), .second, .val (.long (j3 &&& (9223372036854775807 : Int64))), .second, .val (.long (own_j1_3_0 (j2 &&& (9223372036854775807 : Int64)) (j3 &&& (9223372036854775807 : Int64)))), .second, .val (.long (own_j2_3_0 (j2 &&& (9223372036854775807 : Int64)) (j3 &&& (9223372036854775807 : Int64)))), .second, .val (.long (own_j0_60_0 i1 j4)), .second, .val (.long (j5 &&& (9223372036854775807 : Int64))), .second, .val (.ref b19), .val (.ref b23_0)] [(.ref b23_0)])) rfl (by rw [hml]; rfl) (Steps.refl _) (argsL := []) (rest := []) (lenOf pd_5 rfl) rfl (by show 2 * 0 + _ ≤ _; exact Nat.le_of_eq rfl) (hb hby at_138) (fun _ _ => ⟨rfl, e28, (by decide : 2 + 0 ≤ _), (by decide : 12 + 0 ≤ _)⟩)
      dsimp only [Pt.U, Pt.locs, Pt.cells, Pt.slots] at X29 l29 y29 z29 st29 hQ29
      subst l29 y29 z29
      obtain ⟨rfl, Nq29, e29⟩ := hQ29
      have N29 := Fr.app N28 Nq29
      obtain ⟨cq30, kq30, q30a, q30b, q30c⟩ := isOf hZ e29 f23_0
      obtain ⟨_, _, ⟨T30, L30, k30, n30⟩, -, X30, ⟨Lc30, hQ30, l30, y30, z30⟩, st30⟩ := X29.virtualBack hx (y := (⟨"com/example/burst/burst/Decision", "retryAfterMillis", "()J"⟩ : MethodName)) (z := (⟨"com/example/burst/burst/Decision", "retryAfterMillis", "()J"⟩ : MethodName)) hown (mvT hZ (hw _ (List.mem_of_getElem? (i := 58) rfl))) (mvT hZ (hw _ (List.mem_of_getElem? (i := 59) rfl))) (notFace_of_selects (args := #[]) (mvT hZ (hw _ (List.mem_of_getElem? (i := 61) rfl)))) (mvT hZ (hw _ (List.mem_of_getElem? (i := 61) rfl))) (mvT hZ (hw _ (List.mem_of_getElem? (i := 60) rfl))) (by decide) (backOf (W := 0) (rm10 l Z a0 hw [] b23_0 (own_j0_60_0 i1 j4) T23.heap n0 (Nat.le_trans Z0 K24.1) f23_4) hZ (hw _ (List.mem_of_getElem? (i := 62) rfl)) (hw _ (List.mem_of_getElem? (i := 11) rfl)) (by decide) (by decide)) q30a q30c (g := (mkF m 149 #[.val (.int i1), .val (.long j2), .second, .val (.long j3), .second, .val (.long j4), .second, .val (.long j5), .second, .val (.int (own_j0_3_0 i1)), .val (.int (own_j0_16_0 i1)), .val (.long (j2 &&& (9223372036854775807 : Int64))), .second, .val (.long (j3 &&& (9223372036854775807 : Int64))), .second, .val (.long (own_j1_3_0 (j2 &&& (9223372036854775807 : Int64)) (j3 &&& (9223372036854775807 : Int64)))), .second, .val (.long (own_j2_3_0 (j2 &&& (9223372036854775807 : Int64)) (j3 &&& (9223372036854775807 : Int64)))), .second, .val (.long (own_j0_60_0 i1 j4)), .second, .val (.long (j5 &&& (9223372036854775807 : Int64))), .second, .val (.ref b19), .val (.ref b23_0)] [(.ref b23_0)])) rfl (by rw [hml]; rfl) (Steps.refl _) (argsL := []) (rest := []) (lenOf pd_5 rfl) rfl (by show 2 * 0 + _ ≤ _; exact Nat.le_of_eq rfl) (hb hby at_149) (fun _ _ => ⟨rfl, e29, (by decide : 2 + 0 ≤ _), (by decide : 12 + 0 ≤ _)⟩)
      dsimp only [Pt.U, Pt.locs, Pt.cells, Pt.slots] at X30 l30 y30 z30 st30 hQ30
      subst l30 y30 z30
      obtain ⟨rfl, Nq30, e30⟩ := hQ30
      have N30 := Fr.app N29 Nq30
      obtain ⟨cq31, kq31, q31a, q31b, q31c⟩ := isOf hZ e30 f23_0
      obtain ⟨_, _, ⟨T31, L31, k31, n31⟩, -, X31, ⟨Lc31, hQ31, l31, y31, z31⟩, st31⟩ := X30.virtualBack hx (y := (⟨"com/example/burst/burst/Decision", "resetAfterMillis", "()J"⟩ : MethodName)) (z := (⟨"com/example/burst/burst/Decision", "resetAfterMillis", "()J"⟩ : MethodName)) hown (mvT hZ (hw _ (List.mem_of_getElem? (i := 63) rfl))) (mvT hZ (hw _ (List.mem_of_getElem? (i := 64) rfl))) (notFace_of_selects (args := #[]) (mvT hZ (hw _ (List.mem_of_getElem? (i := 66) rfl)))) (mvT hZ (hw _ (List.mem_of_getElem? (i := 66) rfl))) (mvT hZ (hw _ (List.mem_of_getElem? (i := 65) rfl))) (by decide) (backOf (W := 0) (rm11 l Z a0 hw [] b23_0 (j5 &&& (9223372036854775807 : Int64)) T23.heap n0 (Nat.le_trans Z0 K24.1) f23_5) hZ (hw _ (List.mem_of_getElem? (i := 67) rfl)) (hw _ (List.mem_of_getElem? (i := 11) rfl)) (by decide) (by decide)) q31a q31c (g := (mkF m 160 #[.val (.int i1), .val (.long j2), .second, .val (.long j3), .second, .val (.long j4), .second, .val (.long j5), .second, .val (.int (own_j0_3_0 i1)), .val (.int (own_j0_16_0 i1)), .val (.long (j2 &&& (9223372036854775807 : Int64))), .second, .val (.long (j3 &&& (9223372036854775807 : Int64))), .second, .val (.long (own_j1_3_0 (j2 &&& (9223372036854775807 : Int64)) (j3 &&& (9223372036854775807 : Int64)))), .second, .val (.long (own_j2_3_0 (j2 &&& (9223372036854775807 : Int64)) (j3 &&& (9223372036854775807 : Int64)))), .second, .val (.long (own_j0_60_0 i1 j4)), .second, .val (.long (j5 &&& (9223372036854775807 : Int64))), .second, .val (.ref b19), .val (.ref b23_0)] [(.ref b23_0)])) rfl (by rw [hml]; rfl) (Steps.refl _) (argsL := []) (rest := []) (lenOf pd_5 rfl) rfl (by show 2 * 0 + _ ≤ _; exact Nat.le_of_eq rfl) (hb hby at_160) (fun _ _ => ⟨rfl, e30, (by decide : 2 + 0 ≤ _), (by decide : 12 + 0 ≤ _)⟩)
      dsimp only [Pt.U, Pt.locs, Pt.cells, Pt.slots] at X31 l31 y31 z31 st31 hQ31
      subst l31 y31 z31
      obtain ⟨rfl, Nq31, e31⟩ := hQ31
      have N31 := Fr.app N30 Nq31
      obtain ⟨cq32, kq32, q32a, q32b, q32c⟩ := isOf hZ e31 f23_0
      obtain ⟨_, _, ⟨T32, L32, k32, n32⟩, -, X32, ⟨Lc32, hQ32, l32, y32, z32⟩, st32⟩ := X31.virtualBack hx (y := (⟨"com/example/burst/burst/Decision", "degraded", "()Z"⟩ : MethodName)) (z := (⟨"com/example/burst/burst/Decision", "degraded", "()Z"⟩ : MethodName)) hown (mvT hZ (hw _ (List.mem_of_getElem? (i := 68) rfl))) (mvT hZ (hw _ (List.mem_of_getElem? (i := 69) rfl))) (notFace_of_selects (args := #[]) (mvT hZ (hw _ (List.mem_of_getElem? (i := 71) rfl)))) (mvT hZ (hw _ (List.mem_of_getElem? (i := 71) rfl))) (mvT hZ (hw _ (List.mem_of_getElem? (i := 70) rfl))) (by decide) (backOf (W := 0) (rm12 l Z a0 hw [] b23_0 (nar .boolean (1 : Int32)) T23.heap n0 (Nat.le_trans Z0 K24.1) f23_6) hZ (hw _ (List.mem_of_getElem? (i := 72) rfl)) (hw _ (List.mem_of_getElem? (i := 11) rfl)) (by decide) (by decide)) q32a q32c (g := (mkF m 171 #[.val (.int i1), .val (.long j2), .second, .val (.long j3), .second, .val (.long j4), .second, .val (.long j5), .second, .val (.int (own_j0_3_0 i1)), .val (.int (own_j0_16_0 i1)), .val (.long (j2 &&& (9223372036854775807 : Int64))), .second, .val (.long (j3 &&& (9223372036854775807 : Int64))), .second, .val (.long (own_j1_3_0 (j2 &&& (9223372036854775807 : Int64)) (j3 &&& (9223372036854775807 : Int64)))), .second, .val (.long (own_j2_3_0 (j2 &&& (9223372036854775807 : Int64)) (j3 &&& (9223372036854775807 : Int64)))), .second, .val (.long (own_j0_60_0 i1 j4)), .second, .val (.long (j5 &&& (9223372036854775807 : Int64))), .second, .val (.ref b19), .val (.ref b23_0)] [(.ref b23_0)])) rfl (by rw [hml]; rfl) (Steps.refl _) (argsL := []) (rest := []) (lenOf pd_4 rfl) rfl (by show 2 * 0 + _ ≤ _; exact Nat.le_of_eq rfl) (hb hby at_171) (fun _ _ => ⟨rfl, e31, (by decide : 2 + 0 ≤ _), (by decide : 12 + 0 ≤ _)⟩)
      dsimp only [Pt.U, Pt.locs, Pt.cells, Pt.slots] at X32 l32 y32 z32 st32 hQ32
      subst l32 y32 z32
      obtain ⟨rfl, Nq32, e32⟩ := hQ32
      have N32 := Fr.app N31 Nq32
      have pre33 : ∀ t, Steps p.tables e below (T32.setTop (mkF m 174 #[.val (.int i1), .val (.long j2), .second, .val (.long j3), .second, .val (.long j4), .second, .val (.long j5), .second, .val (.int (own_j0_3_0 i1)), .val (.int (own_j0_16_0 i1)), .val (.long (j2 &&& (9223372036854775807 : Int64))), .second, .val (.long (j3 &&& (9223372036854775807 : Int64))), .second, .val (.long (own_j1_3_0 (j2 &&& (9223372036854775807 : Int64)) (j3 &&& (9223372036854775807 : Int64)))), .second, .val (.long (own_j2_3_0 (j2 &&& (9223372036854775807 : Int64)) (j3 &&& (9223372036854775807 : Int64)))), .second, .val (.long (own_j0_60_0 i1 j4)), .second, .val (.long (j5 &&& (9223372036854775807 : Int64))), .second, .val (.ref b19), .val (.ref b23_0)] [(.int (nar .boolean (nar .boolean (1 : Int32))))])) t → Steps p.tables e below (s₁.setTop (entryFrame m #[(.int i1), (.long j2), (.long j3), (.long j4), (.long j5)] maxLocals)) t := by
        intro t k
        refine pre26 _ ?_
        show Steps p.tables e below (T25.setTop (mkF m 122 #[.val (.int i1), .val (.long j2), .second, .val (.long j3), .second, .val (.long j4), .second, .val (.long j5), .second, .val (.int (own_j0_3_0 i1)), .val (.int (own_j0_16_0 i1)), .val (.long (j2 &&& (9223372036854775807 : Int64))), .second, .val (.long (j3 &&& (9223372036854775807 : Int64))), .second, .val (.long (own_j1_3_0 (j2 &&& (9223372036854775807 : Int64)) (j3 &&& (9223372036854775807 : Int64)))), .second, .val (.long (own_j2_3_0 (j2 &&& (9223372036854775807 : Int64)) (j3 &&& (9223372036854775807 : Int64)))), .second, .val (.long (own_j0_60_0 i1 j4)), .second, .val (.long (j5 &&& (9223372036854775807 : Int64))), .second, .val (.ref b19), .val (.ref b23_0)] [(.int (own_j0_3_0 i1)), (.int (nar .boolean (nar .boolean (nar .boolean (own_j0_3_0 i1)))))])) _
        refine XS.icmpNo X25.here hx rfl (hb hby at_122) rfl (teq hc122_27).2 ?_
        show Steps p.tables e below (T25.setTop (mkF m 125 #[.val (.int i1), .val (.long j2), .second, .val (.long j3), .second, .val (.long j4), .second, .val (.long j5), .second, .val (.int (own_j0_3_0 i1)), .val (.int (own_j0_16_0 i1)), .val (.long (j2 &&& (9223372036854775807 : Int64))), .second, .val (.long (j3 &&& (9223372036854775807 : Int64))), .second, .val (.long (own_j1_3_0 (j2 &&& (9223372036854775807 : Int64)) (j3 &&& (9223372036854775807 : Int64)))), .second, .val (.long (own_j2_3_0 (j2 &&& (9223372036854775807 : Int64)) (j3 &&& (9223372036854775807 : Int64)))), .second, .val (.long (own_j0_60_0 i1 j4)), .second, .val (.long (j5 &&& (9223372036854775807 : Int64))), .second, .val (.ref b19), .val (.ref b23_0)] [])) _
        refine XS.aload X25.here hx rfl (hb hby at_125) rfl rfl ?_
        show Steps p.tables e below (T25.setTop (mkF m 127 #[.val (.int i1), .val (.long j2), .second, .val (.long j3), .second, .val (.long j4), .second, .val (.long j5), .second, .val (.int (own_j0_3_0 i1)), .val (.int (own_j0_16_0 i1)), .val (.long (j2 &&& (9223372036854775807 : Int64))), .second, .val (.long (j3 &&& (9223372036854775807 : Int64))), .second, .val (.long (own_j1_3_0 (j2 &&& (9223372036854775807 : Int64)) (j3 &&& (9223372036854775807 : Int64)))), .second, .val (.long (own_j2_3_0 (j2 &&& (9223372036854775807 : Int64)) (j3 &&& (9223372036854775807 : Int64)))), .second, .val (.long (own_j0_60_0 i1 j4)), .second, .val (.long (j5 &&& (9223372036854775807 : Int64))), .second, .val (.ref b19), .val (.ref b23_0)] [(.ref b23_0)])) _
        refine st28.trans ?_
        show Steps p.tables e below (T28.setTop (mkF m 130 #[.val (.int i1), .val (.long j2), .second, .val (.long j3), .second, .val (.long j4), .second, .val (.long j5), .second, .val (.int (own_j0_3_0 i1)), .val (.int (own_j0_16_0 i1)), .val (.long (j2 &&& (9223372036854775807 : Int64))), .second, .val (.long (j3 &&& (9223372036854775807 : Int64))), .second, .val (.long (own_j1_3_0 (j2 &&& (9223372036854775807 : Int64)) (j3 &&& (9223372036854775807 : Int64)))), .second, .val (.long (own_j2_3_0 (j2 &&& (9223372036854775807 : Int64)) (j3 &&& (9223372036854775807 : Int64)))), .second, .val (.long (own_j0_60_0 i1 j4)), .second, .val (.long (j5 &&& (9223372036854775807 : Int64))), .second, .val (.ref b19), .val (.ref b23_0)] [(.long (own_j1_3_0 (j2 &&& (9223372036854775807 : Int64)) (j3 &&& (9223372036854775807 : Int64))))])) _
        refine XS.lload X28.here hx rfl (hb hby at_130) rfl ?_
        show Steps p.tables e below (T28.setTop (mkF m 132 #[.val (.int i1), .val (.long j2), .second, .val (.long j3), .second, .val (.long j4), .second, .val (.long j5), .second, .val (.int (own_j0_3_0 i1)), .val (.int (own_j0_16_0 i1)), .val (.long (j2 &&& (9223372036854775807 : Int64))), .second, .val (.long (j3 &&& (9223372036854775807 : Int64))), .second, .val (.long (own_j1_3_0 (j2 &&& (9223372036854775807 : Int64)) (j3 &&& (9223372036854775807 : Int64)))), .second, .val (.long (own_j2_3_0 (j2 &&& (9223372036854775807 : Int64)) (j3 &&& (9223372036854775807 : Int64)))), .second, .val (.long (own_j0_60_0 i1 j4)), .second, .val (.long (j5 &&& (9223372036854775807 : Int64))), .second, .val (.ref b19), .val (.ref b23_0)] [(.long (own_j1_3_0 (j2 &&& (9223372036854775807 : Int64)) (j3 &&& (9223372036854775807 : Int64)))), (.long (own_j1_3_0 (j2 &&& (9223372036854775807 : Int64)) (j3 &&& (9223372036854775807 : Int64))))])) _
        refine XS.lcmp X28.here hx rfl (hb hby at_132) rfl ?_
        show Steps p.tables e below (T28.setTop (mkF m 133 #[.val (.int i1), .val (.long j2), .second, .val (.long j3), .second, .val (.long j4), .second, .val (.long j5), .second, .val (.int (own_j0_3_0 i1)), .val (.int (own_j0_16_0 i1)), .val (.long (j2 &&& (9223372036854775807 : Int64))), .second, .val (.long (j3 &&& (9223372036854775807 : Int64))), .second, .val (.long (own_j1_3_0 (j2 &&& (9223372036854775807 : Int64)) (j3 &&& (9223372036854775807 : Int64)))), .second, .val (.long (own_j2_3_0 (j2 &&& (9223372036854775807 : Int64)) (j3 &&& (9223372036854775807 : Int64)))), .second, .val (.long (own_j0_60_0 i1 j4)), .second, .val (.long (j5 &&& (9223372036854775807 : Int64))), .second, .val (.ref b19), .val (.ref b23_0)] [(.int (lcmpW (own_j1_3_0 (j2 &&& (9223372036854775807 : Int64)) (j3 &&& (9223372036854775807 : Int64))) (own_j1_3_0 (j2 &&& (9223372036854775807 : Int64)) (j3 &&& (9223372036854775807 : Int64)))))])) _
        refine XS.ifNo X28.here hx rfl (hb hby at_133) rfl ((if0 _ _).trans (teq ((lw_eq (own_j1_3_0 (j2 &&& (9223372036854775807 : Int64)) (j3 &&& (9223372036854775807 : Int64))) (own_j1_3_0 (j2 &&& (9223372036854775807 : Int64)) (j3 &&& (9223372036854775807 : Int64)))).mpr (rfl : (own_j1_3_0 (j2 &&& (9223372036854775807 : Int64)) (j3 &&& (9223372036854775807 : Int64))) = (own_j1_3_0 (j2 &&& (9223372036854775807 : Int64)) (j3 &&& (9223372036854775807 : Int64)))))).2) ?_
        show Steps p.tables e below (T28.setTop (mkF m 136 #[.val (.int i1), .val (.long j2), .second, .val (.long j3), .second, .val (.long j4), .second, .val (.long j5), .second, .val (.int (own_j0_3_0 i1)), .val (.int (own_j0_16_0 i1)), .val (.long (j2 &&& (9223372036854775807 : Int64))), .second, .val (.long (j3 &&& (9223372036854775807 : Int64))), .second, .val (.long (own_j1_3_0 (j2 &&& (9223372036854775807 : Int64)) (j3 &&& (9223372036854775807 : Int64)))), .second, .val (.long (own_j2_3_0 (j2 &&& (9223372036854775807 : Int64)) (j3 &&& (9223372036854775807 : Int64)))), .second, .val (.long (own_j0_60_0 i1 j4)), .second, .val (.long (j5 &&& (9223372036854775807 : Int64))), .second, .val (.ref b19), .val (.ref b23_0)] [])) _
        refine XS.aload X28.here hx rfl (hb hby at_136) rfl rfl ?_
        show Steps p.tables e below (T28.setTop (mkF m 138 #[.val (.int i1), .val (.long j2), .second, .val (.long j3), .second, .val (.long j4), .second, .val (.long j5), .second, .val (.int (own_j0_3_0 i1)), .val (.int (own_j0_16_0 i1)), .val (.long (j2 &&& (9223372036854775807 : Int64))), .second, .val (.long (j3 &&& (9223372036854775807 : Int64))), .second, .val (.long (own_j1_3_0 (j2 &&& (9223372036854775807 : Int64)) (j3 &&& (9223372036854775807 : Int64)))), .second, .val (.long (own_j2_3_0 (j2 &&& (9223372036854775807 : Int64)) (j3 &&& (9223372036854775807 : Int64)))), .second, .val (.long (own_j0_60_0 i1 j4)), .second, .val (.long (j5 &&& (9223372036854775807 : Int64))), .second, .val (.ref b19), .val (.ref b23_0)] [(.ref b23_0)])) _
        refine st29.trans ?_
        show Steps p.tables e below (T29.setTop (mkF m 141 #[.val (.int i1), .val (.long j2), .second, .val (.long j3), .second, .val (.long j4), .second, .val (.long j5), .second, .val (.int (own_j0_3_0 i1)), .val (.int (own_j0_16_0 i1)), .val (.long (j2 &&& (9223372036854775807 : Int64))), .second, .val (.long (j3 &&& (9223372036854775807 : Int64))), .second, .val (.long (own_j1_3_0 (j2 &&& (9223372036854775807 : Int64)) (j3 &&& (9223372036854775807 : Int64)))), .second, .val (.long (own_j2_3_0 (j2 &&& (9223372036854775807 : Int64)) (j3 &&& (9223372036854775807 : Int64)))), .second, .val (.long (own_j0_60_0 i1 j4)), .second, .val (.long (j5 &&& (9223372036854775807 : Int64))), .second, .val (.ref b19), .val (.ref b23_0)] [(.long (own_j2_3_0 (j2 &&& (9223372036854775807 : Int64)) (j3 &&& (9223372036854775807 : Int64))))])) _
        refine XS.lload X29.here hx rfl (hb hby at_141) rfl ?_
        show Steps p.tables e below (T29.setTop (mkF m 143 #[.val (.int i1), .val (.long j2), .second, .val (.long j3), .second, .val (.long j4), .second, .val (.long j5), .second, .val (.int (own_j0_3_0 i1)), .val (.int (own_j0_16_0 i1)), .val (.long (j2 &&& (9223372036854775807 : Int64))), .second, .val (.long (j3 &&& (9223372036854775807 : Int64))), .second, .val (.long (own_j1_3_0 (j2 &&& (9223372036854775807 : Int64)) (j3 &&& (9223372036854775807 : Int64)))), .second, .val (.long (own_j2_3_0 (j2 &&& (9223372036854775807 : Int64)) (j3 &&& (9223372036854775807 : Int64)))), .second, .val (.long (own_j0_60_0 i1 j4)), .second, .val (.long (j5 &&& (9223372036854775807 : Int64))), .second, .val (.ref b19), .val (.ref b23_0)] [(.long (own_j2_3_0 (j2 &&& (9223372036854775807 : Int64)) (j3 &&& (9223372036854775807 : Int64)))), (.long (own_j2_3_0 (j2 &&& (9223372036854775807 : Int64)) (j3 &&& (9223372036854775807 : Int64))))])) _
        refine XS.lcmp X29.here hx rfl (hb hby at_143) rfl ?_
        show Steps p.tables e below (T29.setTop (mkF m 144 #[.val (.int i1), .val (.long j2), .second, .val (.long j3), .second, .val (.long j4), .second, .val (.long j5), .second, .val (.int (own_j0_3_0 i1)), .val (.int (own_j0_16_0 i1)), .val (.long (j2 &&& (9223372036854775807 : Int64))), .second, .val (.long (j3 &&& (9223372036854775807 : Int64))), .second, .val (.long (own_j1_3_0 (j2 &&& (9223372036854775807 : Int64)) (j3 &&& (9223372036854775807 : Int64)))), .second, .val (.long (own_j2_3_0 (j2 &&& (9223372036854775807 : Int64)) (j3 &&& (9223372036854775807 : Int64)))), .second, .val (.long (own_j0_60_0 i1 j4)), .second, .val (.long (j5 &&& (9223372036854775807 : Int64))), .second, .val (.ref b19), .val (.ref b23_0)] [(.int (lcmpW (own_j2_3_0 (j2 &&& (9223372036854775807 : Int64)) (j3 &&& (9223372036854775807 : Int64))) (own_j2_3_0 (j2 &&& (9223372036854775807 : Int64)) (j3 &&& (9223372036854775807 : Int64)))))])) _
        refine XS.ifNo X29.here hx rfl (hb hby at_144) rfl ((if0 _ _).trans (teq ((lw_eq (own_j2_3_0 (j2 &&& (9223372036854775807 : Int64)) (j3 &&& (9223372036854775807 : Int64))) (own_j2_3_0 (j2 &&& (9223372036854775807 : Int64)) (j3 &&& (9223372036854775807 : Int64)))).mpr (rfl : (own_j2_3_0 (j2 &&& (9223372036854775807 : Int64)) (j3 &&& (9223372036854775807 : Int64))) = (own_j2_3_0 (j2 &&& (9223372036854775807 : Int64)) (j3 &&& (9223372036854775807 : Int64)))))).2) ?_
        show Steps p.tables e below (T29.setTop (mkF m 147 #[.val (.int i1), .val (.long j2), .second, .val (.long j3), .second, .val (.long j4), .second, .val (.long j5), .second, .val (.int (own_j0_3_0 i1)), .val (.int (own_j0_16_0 i1)), .val (.long (j2 &&& (9223372036854775807 : Int64))), .second, .val (.long (j3 &&& (9223372036854775807 : Int64))), .second, .val (.long (own_j1_3_0 (j2 &&& (9223372036854775807 : Int64)) (j3 &&& (9223372036854775807 : Int64)))), .second, .val (.long (own_j2_3_0 (j2 &&& (9223372036854775807 : Int64)) (j3 &&& (9223372036854775807 : Int64)))), .second, .val (.long (own_j0_60_0 i1 j4)), .second, .val (.long (j5 &&& (9223372036854775807 : Int64))), .second, .val (.ref b19), .val (.ref b23_0)] [])) _
        refine XS.aload X29.here hx rfl (hb hby at_147) rfl rfl ?_
        show Steps p.tables e below (T29.setTop (mkF m 149 #[.val (.int i1), .val (.long j2), .second, .val (.long j3), .second, .val (.long j4), .second, .val (.long j5), .second, .val (.int (own_j0_3_0 i1)), .val (.int (own_j0_16_0 i1)), .val (.long (j2 &&& (9223372036854775807 : Int64))), .second, .val (.long (j3 &&& (9223372036854775807 : Int64))), .second, .val (.long (own_j1_3_0 (j2 &&& (9223372036854775807 : Int64)) (j3 &&& (9223372036854775807 : Int64)))), .second, .val (.long (own_j2_3_0 (j2 &&& (9223372036854775807 : Int64)) (j3 &&& (9223372036854775807 : Int64)))), .second, .val (.long (own_j0_60_0 i1 j4)), .second, .val (.long (j5 &&& (9223372036854775807 : Int64))), .second, .val (.ref b19), .val (.ref b23_0)] [(.ref b23_0)])) _
        refine st30.trans ?_
        show Steps p.tables e below (T30.setTop (mkF m 152 #[.val (.int i1), .val (.long j2), .second, .val (.long j3), .second, .val (.long j4), .second, .val (.long j5), .second, .val (.int (own_j0_3_0 i1)), .val (.int (own_j0_16_0 i1)), .val (.long (j2 &&& (9223372036854775807 : Int64))), .second, .val (.long (j3 &&& (9223372036854775807 : Int64))), .second, .val (.long (own_j1_3_0 (j2 &&& (9223372036854775807 : Int64)) (j3 &&& (9223372036854775807 : Int64)))), .second, .val (.long (own_j2_3_0 (j2 &&& (9223372036854775807 : Int64)) (j3 &&& (9223372036854775807 : Int64)))), .second, .val (.long (own_j0_60_0 i1 j4)), .second, .val (.long (j5 &&& (9223372036854775807 : Int64))), .second, .val (.ref b19), .val (.ref b23_0)] [(.long (own_j0_60_0 i1 j4))])) _
        refine XS.lload X30.here hx rfl (hb hby at_152) rfl ?_
        show Steps p.tables e below (T30.setTop (mkF m 154 #[.val (.int i1), .val (.long j2), .second, .val (.long j3), .second, .val (.long j4), .second, .val (.long j5), .second, .val (.int (own_j0_3_0 i1)), .val (.int (own_j0_16_0 i1)), .val (.long (j2 &&& (9223372036854775807 : Int64))), .second, .val (.long (j3 &&& (9223372036854775807 : Int64))), .second, .val (.long (own_j1_3_0 (j2 &&& (9223372036854775807 : Int64)) (j3 &&& (9223372036854775807 : Int64)))), .second, .val (.long (own_j2_3_0 (j2 &&& (9223372036854775807 : Int64)) (j3 &&& (9223372036854775807 : Int64)))), .second, .val (.long (own_j0_60_0 i1 j4)), .second, .val (.long (j5 &&& (9223372036854775807 : Int64))), .second, .val (.ref b19), .val (.ref b23_0)] [(.long (own_j0_60_0 i1 j4)), (.long (own_j0_60_0 i1 j4))])) _
        refine XS.lcmp X30.here hx rfl (hb hby at_154) rfl ?_
        show Steps p.tables e below (T30.setTop (mkF m 155 #[.val (.int i1), .val (.long j2), .second, .val (.long j3), .second, .val (.long j4), .second, .val (.long j5), .second, .val (.int (own_j0_3_0 i1)), .val (.int (own_j0_16_0 i1)), .val (.long (j2 &&& (9223372036854775807 : Int64))), .second, .val (.long (j3 &&& (9223372036854775807 : Int64))), .second, .val (.long (own_j1_3_0 (j2 &&& (9223372036854775807 : Int64)) (j3 &&& (9223372036854775807 : Int64)))), .second, .val (.long (own_j2_3_0 (j2 &&& (9223372036854775807 : Int64)) (j3 &&& (9223372036854775807 : Int64)))), .second, .val (.long (own_j0_60_0 i1 j4)), .second, .val (.long (j5 &&& (9223372036854775807 : Int64))), .second, .val (.ref b19), .val (.ref b23_0)] [(.int (lcmpW (own_j0_60_0 i1 j4) (own_j0_60_0 i1 j4)))])) _
        refine XS.ifNo X30.here hx rfl (hb hby at_155) rfl ((if0 _ _).trans (teq ((lw_eq (own_j0_60_0 i1 j4) (own_j0_60_0 i1 j4)).mpr (rfl : (own_j0_60_0 i1 j4) = (own_j0_60_0 i1 j4)))).2) ?_
        show Steps p.tables e below (T30.setTop (mkF m 158 #[.val (.int i1), .val (.long j2), .second, .val (.long j3), .second, .val (.long j4), .second, .val (.long j5), .second, .val (.int (own_j0_3_0 i1)), .val (.int (own_j0_16_0 i1)), .val (.long (j2 &&& (9223372036854775807 : Int64))), .second, .val (.long (j3 &&& (9223372036854775807 : Int64))), .second, .val (.long (own_j1_3_0 (j2 &&& (9223372036854775807 : Int64)) (j3 &&& (9223372036854775807 : Int64)))), .second, .val (.long (own_j2_3_0 (j2 &&& (9223372036854775807 : Int64)) (j3 &&& (9223372036854775807 : Int64)))), .second, .val (.long (own_j0_60_0 i1 j4)), .second, .val (.long (j5 &&& (9223372036854775807 : Int64))), .second, .val (.ref b19), .val (.ref b23_0)] [])) _
        refine XS.aload X30.here hx rfl (hb hby at_158) rfl rfl ?_
        show Steps p.tables e below (T30.setTop (mkF m 160 #[.val (.int i1), .val (.long j2), .second, .val (.long j3), .second, .val (.long j4), .second, .val (.long j5), .second, .val (.int (own_j0_3_0 i1)), .val (.int (own_j0_16_0 i1)), .val (.long (j2 &&& (9223372036854775807 : Int64))), .second, .val (.long (j3 &&& (9223372036854775807 : Int64))), .second, .val (.long (own_j1_3_0 (j2 &&& (9223372036854775807 : Int64)) (j3 &&& (9223372036854775807 : Int64)))), .second, .val (.long (own_j2_3_0 (j2 &&& (9223372036854775807 : Int64)) (j3 &&& (9223372036854775807 : Int64)))), .second, .val (.long (own_j0_60_0 i1 j4)), .second, .val (.long (j5 &&& (9223372036854775807 : Int64))), .second, .val (.ref b19), .val (.ref b23_0)] [(.ref b23_0)])) _
        refine st31.trans ?_
        show Steps p.tables e below (T31.setTop (mkF m 163 #[.val (.int i1), .val (.long j2), .second, .val (.long j3), .second, .val (.long j4), .second, .val (.long j5), .second, .val (.int (own_j0_3_0 i1)), .val (.int (own_j0_16_0 i1)), .val (.long (j2 &&& (9223372036854775807 : Int64))), .second, .val (.long (j3 &&& (9223372036854775807 : Int64))), .second, .val (.long (own_j1_3_0 (j2 &&& (9223372036854775807 : Int64)) (j3 &&& (9223372036854775807 : Int64)))), .second, .val (.long (own_j2_3_0 (j2 &&& (9223372036854775807 : Int64)) (j3 &&& (9223372036854775807 : Int64)))), .second, .val (.long (own_j0_60_0 i1 j4)), .second, .val (.long (j5 &&& (9223372036854775807 : Int64))), .second, .val (.ref b19), .val (.ref b23_0)] [(.long (j5 &&& (9223372036854775807 : Int64)))])) _
        refine XS.lload X31.here hx rfl (hb hby at_163) rfl ?_
        show Steps p.tables e below (T31.setTop (mkF m 165 #[.val (.int i1), .val (.long j2), .second, .val (.long j3), .second, .val (.long j4), .second, .val (.long j5), .second, .val (.int (own_j0_3_0 i1)), .val (.int (own_j0_16_0 i1)), .val (.long (j2 &&& (9223372036854775807 : Int64))), .second, .val (.long (j3 &&& (9223372036854775807 : Int64))), .second, .val (.long (own_j1_3_0 (j2 &&& (9223372036854775807 : Int64)) (j3 &&& (9223372036854775807 : Int64)))), .second, .val (.long (own_j2_3_0 (j2 &&& (9223372036854775807 : Int64)) (j3 &&& (9223372036854775807 : Int64)))), .second, .val (.long (own_j0_60_0 i1 j4)), .second, .val (.long (j5 &&& (9223372036854775807 : Int64))), .second, .val (.ref b19), .val (.ref b23_0)] [(.long (j5 &&& (9223372036854775807 : Int64))), (.long (j5 &&& (9223372036854775807 : Int64)))])) _
        refine XS.lcmp X31.here hx rfl (hb hby at_165) rfl ?_
        show Steps p.tables e below (T31.setTop (mkF m 166 #[.val (.int i1), .val (.long j2), .second, .val (.long j3), .second, .val (.long j4), .second, .val (.long j5), .second, .val (.int (own_j0_3_0 i1)), .val (.int (own_j0_16_0 i1)), .val (.long (j2 &&& (9223372036854775807 : Int64))), .second, .val (.long (j3 &&& (9223372036854775807 : Int64))), .second, .val (.long (own_j1_3_0 (j2 &&& (9223372036854775807 : Int64)) (j3 &&& (9223372036854775807 : Int64)))), .second, .val (.long (own_j2_3_0 (j2 &&& (9223372036854775807 : Int64)) (j3 &&& (9223372036854775807 : Int64)))), .second, .val (.long (own_j0_60_0 i1 j4)), .second, .val (.long (j5 &&& (9223372036854775807 : Int64))), .second, .val (.ref b19), .val (.ref b23_0)] [(.int (lcmpW (j5 &&& (9223372036854775807 : Int64)) (j5 &&& (9223372036854775807 : Int64))))])) _
        refine XS.ifNo X31.here hx rfl (hb hby at_166) rfl ((if0 _ _).trans (teq ((lw_eq (j5 &&& (9223372036854775807 : Int64)) (j5 &&& (9223372036854775807 : Int64))).mpr (rfl : (j5 &&& (9223372036854775807 : Int64)) = (j5 &&& (9223372036854775807 : Int64))))).2) ?_
        show Steps p.tables e below (T31.setTop (mkF m 169 #[.val (.int i1), .val (.long j2), .second, .val (.long j3), .second, .val (.long j4), .second, .val (.long j5), .second, .val (.int (own_j0_3_0 i1)), .val (.int (own_j0_16_0 i1)), .val (.long (j2 &&& (9223372036854775807 : Int64))), .second, .val (.long (j3 &&& (9223372036854775807 : Int64))), .second, .val (.long (own_j1_3_0 (j2 &&& (9223372036854775807 : Int64)) (j3 &&& (9223372036854775807 : Int64)))), .second, .val (.long (own_j2_3_0 (j2 &&& (9223372036854775807 : Int64)) (j3 &&& (9223372036854775807 : Int64)))), .second, .val (.long (own_j0_60_0 i1 j4)), .second, .val (.long (j5 &&& (9223372036854775807 : Int64))), .second, .val (.ref b19), .val (.ref b23_0)] [])) _
        refine XS.aload X31.here hx rfl (hb hby at_169) rfl rfl ?_
        show Steps p.tables e below (T31.setTop (mkF m 171 #[.val (.int i1), .val (.long j2), .second, .val (.long j3), .second, .val (.long j4), .second, .val (.long j5), .second, .val (.int (own_j0_3_0 i1)), .val (.int (own_j0_16_0 i1)), .val (.long (j2 &&& (9223372036854775807 : Int64))), .second, .val (.long (j3 &&& (9223372036854775807 : Int64))), .second, .val (.long (own_j1_3_0 (j2 &&& (9223372036854775807 : Int64)) (j3 &&& (9223372036854775807 : Int64)))), .second, .val (.long (own_j2_3_0 (j2 &&& (9223372036854775807 : Int64)) (j3 &&& (9223372036854775807 : Int64)))), .second, .val (.long (own_j0_60_0 i1 j4)), .second, .val (.long (j5 &&& (9223372036854775807 : Int64))), .second, .val (.ref b19), .val (.ref b23_0)] [(.ref b23_0)])) _
        refine st32.trans ?_
        exact k
      by_cases hc174_34 : (nar .boolean (nar .boolean (1 : Int32))) = (0 : Int32)
      · have pre35 : ∀ t, Steps p.tables e below (T32.setTop (mkF m 192 #[.val (.int i1), .val (.long j2), .second, .val (.long j3), .second, .val (.long j4), .second, .val (.long j5), .second, .val (.int (own_j0_3_0 i1)), .val (.int (own_j0_16_0 i1)), .val (.long (j2 &&& (9223372036854775807 : Int64))), .second, .val (.long (j3 &&& (9223372036854775807 : Int64))), .second, .val (.long (own_j1_3_0 (j2 &&& (9223372036854775807 : Int64)) (j3 &&& (9223372036854775807 : Int64)))), .second, .val (.long (own_j2_3_0 (j2 &&& (9223372036854775807 : Int64)) (j3 &&& (9223372036854775807 : Int64)))), .second, .val (.long (own_j0_60_0 i1 j4)), .second, .val (.long (j5 &&& (9223372036854775807 : Int64))), .second, .val (.ref b19), .val (.ref b23_0)] [(.int (0 : Int32))])) t → Steps p.tables e below (s₁.setTop (entryFrame m #[(.int i1), (.long j2), (.long j3), (.long j4), (.long j5)] maxLocals)) t := by
          intro t k
          refine pre33 _ ?_
          show Steps p.tables e below (T32.setTop (mkF m 174 #[.val (.int i1), .val (.long j2), .second, .val (.long j3), .second, .val (.long j4), .second, .val (.long j5), .second, .val (.int (own_j0_3_0 i1)), .val (.int (own_j0_16_0 i1)), .val (.long (j2 &&& (9223372036854775807 : Int64))), .second, .val (.long (j3 &&& (9223372036854775807 : Int64))), .second, .val (.long (own_j1_3_0 (j2 &&& (9223372036854775807 : Int64)) (j3 &&& (9223372036854775807 : Int64)))), .second, .val (.long (own_j2_3_0 (j2 &&& (9223372036854775807 : Int64)) (j3 &&& (9223372036854775807 : Int64)))), .second, .val (.long (own_j0_60_0 i1 j4)), .second, .val (.long (j5 &&& (9223372036854775807 : Int64))), .second, .val (.ref b19), .val (.ref b23_0)] [(.int (nar .boolean (nar .boolean (1 : Int32))))])) _
          refine XS.ifYes X32.here hx rfl (pc0 := 174) (pc' := 191) rfl (hb hby at_174) rfl ((if0 _ _).trans (teq hc174_34).1) (by decide) (by decide) ?_
          show Steps p.tables e below (T32.setTop (mkF m 191 #[.val (.int i1), .val (.long j2), .second, .val (.long j3), .second, .val (.long j4), .second, .val (.long j5), .second, .val (.int (own_j0_3_0 i1)), .val (.int (own_j0_16_0 i1)), .val (.long (j2 &&& (9223372036854775807 : Int64))), .second, .val (.long (j3 &&& (9223372036854775807 : Int64))), .second, .val (.long (own_j1_3_0 (j2 &&& (9223372036854775807 : Int64)) (j3 &&& (9223372036854775807 : Int64)))), .second, .val (.long (own_j2_3_0 (j2 &&& (9223372036854775807 : Int64)) (j3 &&& (9223372036854775807 : Int64)))), .second, .val (.long (own_j0_60_0 i1 j4)), .second, .val (.long (j5 &&& (9223372036854775807 : Int64))), .second, .val (.ref b19), .val (.ref b23_0)] [])) _
          refine XS.iconst X32.here hx rfl (hb hby at_191) ?_
          exact k
        exact ⟨T32, _, X32, N32, e32, fun t k => pre35 t (by rw [show (own_j0_122_0 i1) = (0 : Int32) from ((if_pos hc122_27).trans (if_pos hc174_34))] at k; exact k)⟩
      · have f36 := (f21_6.keep Kq23 nin0)
        have f38 := (f21_0.keep Kq23)
        obtain ⟨cq37, kq37, q37a, q37b, q37c⟩ := isOf hZ e32 f38
        obtain ⟨_, _, ⟨T37, L37, k37, n37⟩, -, X37, ⟨Lc37, hQ37, l37, y37, z37⟩, st37⟩ := X32.virtualBack hx (y := (⟨"com/example/burst/burst/Decision", "degraded", "()Z"⟩ : MethodName)) (z := (⟨"com/example/burst/burst/Decision", "degraded", "()Z"⟩ : MethodName)) hown (mvT hZ (hw _ (List.mem_of_getElem? (i := 68) rfl))) (mvT hZ (hw _ (List.mem_of_getElem? (i := 69) rfl))) (notFace_of_selects (args := #[]) (mvT hZ (hw _ (List.mem_of_getElem? (i := 71) rfl)))) (mvT hZ (hw _ (List.mem_of_getElem? (i := 71) rfl))) (mvT hZ (hw _ (List.mem_of_getElem? (i := 70) rfl))) (by decide) (backOf (W := 0) (rm12 l Z a0 hw [] b19 (nar .boolean (own_j0_16_0 i1)) T23.heap n0 (Nat.le_trans Z0 K24.1) f36) hZ (hw _ (List.mem_of_getElem? (i := 72) rfl)) (hw _ (List.mem_of_getElem? (i := 11) rfl)) (by decide) (by decide)) q37a q37c (g := (mkF m 179 #[.val (.int i1), .val (.long j2), .second, .val (.long j3), .second, .val (.long j4), .second, .val (.long j5), .second, .val (.int (own_j0_3_0 i1)), .val (.int (own_j0_16_0 i1)), .val (.long (j2 &&& (9223372036854775807 : Int64))), .second, .val (.long (j3 &&& (9223372036854775807 : Int64))), .second, .val (.long (own_j1_3_0 (j2 &&& (9223372036854775807 : Int64)) (j3 &&& (9223372036854775807 : Int64)))), .second, .val (.long (own_j2_3_0 (j2 &&& (9223372036854775807 : Int64)) (j3 &&& (9223372036854775807 : Int64)))), .second, .val (.long (own_j0_60_0 i1 j4)), .second, .val (.long (j5 &&& (9223372036854775807 : Int64))), .second, .val (.ref b19), .val (.ref b23_0)] [(.ref b19)])) rfl (by rw [hml]; rfl) (Steps.refl _) (argsL := []) (rest := []) (lenOf pd_4 rfl) rfl (by show 2 * 0 + _ ≤ _; exact Nat.le_of_eq rfl) (hb hby at_179) (fun _ _ => ⟨rfl, e32, (by decide : 2 + 0 ≤ _), (by decide : 12 + 0 ≤ _)⟩)
        dsimp only [Pt.U, Pt.locs, Pt.cells, Pt.slots] at X37 l37 y37 z37 st37 hQ37
        subst l37 y37 z37
        obtain ⟨rfl, Nq37, e37⟩ := hQ37
        have N37 := Fr.app N32 Nq37
        have pre39 : ∀ t, Steps p.tables e below (T37.setTop (mkF m 184 #[.val (.int i1), .val (.long j2), .second, .val (.long j3), .second, .val (.long j4), .second, .val (.long j5), .second, .val (.int (own_j0_3_0 i1)), .val (.int (own_j0_16_0 i1)), .val (.long (j2 &&& (9223372036854775807 : Int64))), .second, .val (.long (j3 &&& (9223372036854775807 : Int64))), .second, .val (.long (own_j1_3_0 (j2 &&& (9223372036854775807 : Int64)) (j3 &&& (9223372036854775807 : Int64)))), .second, .val (.long (own_j2_3_0 (j2 &&& (9223372036854775807 : Int64)) (j3 &&& (9223372036854775807 : Int64)))), .second, .val (.long (own_j0_60_0 i1 j4)), .second, .val (.long (j5 &&& (9223372036854775807 : Int64))), .second, .val (.ref b19), .val (.ref b23_0)] [(.int (own_j0_16_0 i1)), (.int (nar .boolean (nar .boolean (own_j0_16_0 i1))))])) t → Steps p.tables e below (s₁.setTop (entryFrame m #[(.int i1), (.long j2), (.long j3), (.long j4), (.long j5)] maxLocals)) t := by
          intro t k
          refine pre33 _ ?_
          show Steps p.tables e below (T32.setTop (mkF m 174 #[.val (.int i1), .val (.long j2), .second, .val (.long j3), .second, .val (.long j4), .second, .val (.long j5), .second, .val (.int (own_j0_3_0 i1)), .val (.int (own_j0_16_0 i1)), .val (.long (j2 &&& (9223372036854775807 : Int64))), .second, .val (.long (j3 &&& (9223372036854775807 : Int64))), .second, .val (.long (own_j1_3_0 (j2 &&& (9223372036854775807 : Int64)) (j3 &&& (9223372036854775807 : Int64)))), .second, .val (.long (own_j2_3_0 (j2 &&& (9223372036854775807 : Int64)) (j3 &&& (9223372036854775807 : Int64)))), .second, .val (.long (own_j0_60_0 i1 j4)), .second, .val (.long (j5 &&& (9223372036854775807 : Int64))), .second, .val (.ref b19), .val (.ref b23_0)] [(.int (nar .boolean (nar .boolean (1 : Int32))))])) _
          refine XS.ifNo X32.here hx rfl (hb hby at_174) rfl ((if0 _ _).trans (feq hc174_34).1) ?_
          show Steps p.tables e below (T32.setTop (mkF m 177 #[.val (.int i1), .val (.long j2), .second, .val (.long j3), .second, .val (.long j4), .second, .val (.long j5), .second, .val (.int (own_j0_3_0 i1)), .val (.int (own_j0_16_0 i1)), .val (.long (j2 &&& (9223372036854775807 : Int64))), .second, .val (.long (j3 &&& (9223372036854775807 : Int64))), .second, .val (.long (own_j1_3_0 (j2 &&& (9223372036854775807 : Int64)) (j3 &&& (9223372036854775807 : Int64)))), .second, .val (.long (own_j2_3_0 (j2 &&& (9223372036854775807 : Int64)) (j3 &&& (9223372036854775807 : Int64)))), .second, .val (.long (own_j0_60_0 i1 j4)), .second, .val (.long (j5 &&& (9223372036854775807 : Int64))), .second, .val (.ref b19), .val (.ref b23_0)] [])) _
          refine XS.aload X32.here hx rfl (hb hby at_177) rfl rfl ?_
          show Steps p.tables e below (T32.setTop (mkF m 179 #[.val (.int i1), .val (.long j2), .second, .val (.long j3), .second, .val (.long j4), .second, .val (.long j5), .second, .val (.int (own_j0_3_0 i1)), .val (.int (own_j0_16_0 i1)), .val (.long (j2 &&& (9223372036854775807 : Int64))), .second, .val (.long (j3 &&& (9223372036854775807 : Int64))), .second, .val (.long (own_j1_3_0 (j2 &&& (9223372036854775807 : Int64)) (j3 &&& (9223372036854775807 : Int64)))), .second, .val (.long (own_j2_3_0 (j2 &&& (9223372036854775807 : Int64)) (j3 &&& (9223372036854775807 : Int64)))), .second, .val (.long (own_j0_60_0 i1 j4)), .second, .val (.long (j5 &&& (9223372036854775807 : Int64))), .second, .val (.ref b19), .val (.ref b23_0)] [(.ref b19)])) _
          refine st37.trans ?_
          show Steps p.tables e below (T37.setTop (mkF m 182 #[.val (.int i1), .val (.long j2), .second, .val (.long j3), .second, .val (.long j4), .second, .val (.long j5), .second, .val (.int (own_j0_3_0 i1)), .val (.int (own_j0_16_0 i1)), .val (.long (j2 &&& (9223372036854775807 : Int64))), .second, .val (.long (j3 &&& (9223372036854775807 : Int64))), .second, .val (.long (own_j1_3_0 (j2 &&& (9223372036854775807 : Int64)) (j3 &&& (9223372036854775807 : Int64)))), .second, .val (.long (own_j2_3_0 (j2 &&& (9223372036854775807 : Int64)) (j3 &&& (9223372036854775807 : Int64)))), .second, .val (.long (own_j0_60_0 i1 j4)), .second, .val (.long (j5 &&& (9223372036854775807 : Int64))), .second, .val (.ref b19), .val (.ref b23_0)] [(.int (nar .boolean (nar .boolean (own_j0_16_0 i1))))])) _
          refine XS.iload X37.here hx rfl (hb hby at_182) rfl ?_
          exact k
        by_cases hc184_40 : (nar .boolean (nar .boolean (own_j0_16_0 i1))) = (own_j0_16_0 i1)
        · have pre41 : ∀ t, Steps p.tables e below (T37.setTop (mkF m 192 #[.val (.int i1), .val (.long j2), .second, .val (.long j3), .second, .val (.long j4), .second, .val (.long j5), .second, .val (.int (own_j0_3_0 i1)), .val (.int (own_j0_16_0 i1)), .val (.long (j2 &&& (9223372036854775807 : Int64))), .second, .val (.long (j3 &&& (9223372036854775807 : Int64))), .second, .val (.long (own_j1_3_0 (j2 &&& (9223372036854775807 : Int64)) (j3 &&& (9223372036854775807 : Int64)))), .second, .val (.long (own_j2_3_0 (j2 &&& (9223372036854775807 : Int64)) (j3 &&& (9223372036854775807 : Int64)))), .second, .val (.long (own_j0_60_0 i1 j4)), .second, .val (.long (j5 &&& (9223372036854775807 : Int64))), .second, .val (.ref b19), .val (.ref b23_0)] [(.int (1 : Int32))])) t → Steps p.tables e below (s₁.setTop (entryFrame m #[(.int i1), (.long j2), (.long j3), (.long j4), (.long j5)] maxLocals)) t := by
            intro t k
            refine pre39 _ ?_
            show Steps p.tables e below (T37.setTop (mkF m 184 #[.val (.int i1), .val (.long j2), .second, .val (.long j3), .second, .val (.long j4), .second, .val (.long j5), .second, .val (.int (own_j0_3_0 i1)), .val (.int (own_j0_16_0 i1)), .val (.long (j2 &&& (9223372036854775807 : Int64))), .second, .val (.long (j3 &&& (9223372036854775807 : Int64))), .second, .val (.long (own_j1_3_0 (j2 &&& (9223372036854775807 : Int64)) (j3 &&& (9223372036854775807 : Int64)))), .second, .val (.long (own_j2_3_0 (j2 &&& (9223372036854775807 : Int64)) (j3 &&& (9223372036854775807 : Int64)))), .second, .val (.long (own_j0_60_0 i1 j4)), .second, .val (.long (j5 &&& (9223372036854775807 : Int64))), .second, .val (.ref b19), .val (.ref b23_0)] [(.int (own_j0_16_0 i1)), (.int (nar .boolean (nar .boolean (own_j0_16_0 i1))))])) _
            refine XS.icmpNo X37.here hx rfl (hb hby at_184) rfl (teq hc184_40).2 ?_
            show Steps p.tables e below (T37.setTop (mkF m 187 #[.val (.int i1), .val (.long j2), .second, .val (.long j3), .second, .val (.long j4), .second, .val (.long j5), .second, .val (.int (own_j0_3_0 i1)), .val (.int (own_j0_16_0 i1)), .val (.long (j2 &&& (9223372036854775807 : Int64))), .second, .val (.long (j3 &&& (9223372036854775807 : Int64))), .second, .val (.long (own_j1_3_0 (j2 &&& (9223372036854775807 : Int64)) (j3 &&& (9223372036854775807 : Int64)))), .second, .val (.long (own_j2_3_0 (j2 &&& (9223372036854775807 : Int64)) (j3 &&& (9223372036854775807 : Int64)))), .second, .val (.long (own_j0_60_0 i1 j4)), .second, .val (.long (j5 &&& (9223372036854775807 : Int64))), .second, .val (.ref b19), .val (.ref b23_0)] [])) _
            refine XS.iconst X37.here hx rfl (hb hby at_187) ?_
            show Steps p.tables e below (T37.setTop (mkF m 188 #[.val (.int i1), .val (.long j2), .second, .val (.long j3), .second, .val (.long j4), .second, .val (.long j5), .second, .val (.int (own_j0_3_0 i1)), .val (.int (own_j0_16_0 i1)), .val (.long (j2 &&& (9223372036854775807 : Int64))), .second, .val (.long (j3 &&& (9223372036854775807 : Int64))), .second, .val (.long (own_j1_3_0 (j2 &&& (9223372036854775807 : Int64)) (j3 &&& (9223372036854775807 : Int64)))), .second, .val (.long (own_j2_3_0 (j2 &&& (9223372036854775807 : Int64)) (j3 &&& (9223372036854775807 : Int64)))), .second, .val (.long (own_j0_60_0 i1 j4)), .second, .val (.long (j5 &&& (9223372036854775807 : Int64))), .second, .val (.ref b19), .val (.ref b23_0)] [(.int (1 : Int32))])) _
            refine XS.goto X37.here hx rfl (pc0 := 188) (pc' := 192) rfl (hb hby at_188) (by decide) (by decide) ?_
            exact k
          exact ⟨T37, _, X37, N37, e37, fun t k => pre41 t (by rw [show (own_j0_122_0 i1) = (1 : Int32) from ((if_pos hc122_27).trans ((if_neg hc174_34).trans (if_pos hc184_40)))] at k; exact k)⟩
        · have pre42 : ∀ t, Steps p.tables e below (T37.setTop (mkF m 192 #[.val (.int i1), .val (.long j2), .second, .val (.long j3), .second, .val (.long j4), .second, .val (.long j5), .second, .val (.int (own_j0_3_0 i1)), .val (.int (own_j0_16_0 i1)), .val (.long (j2 &&& (9223372036854775807 : Int64))), .second, .val (.long (j3 &&& (9223372036854775807 : Int64))), .second, .val (.long (own_j1_3_0 (j2 &&& (9223372036854775807 : Int64)) (j3 &&& (9223372036854775807 : Int64)))), .second, .val (.long (own_j2_3_0 (j2 &&& (9223372036854775807 : Int64)) (j3 &&& (9223372036854775807 : Int64)))), .second, .val (.long (own_j0_60_0 i1 j4)), .second, .val (.long (j5 &&& (9223372036854775807 : Int64))), .second, .val (.ref b19), .val (.ref b23_0)] [(.int (0 : Int32))])) t → Steps p.tables e below (s₁.setTop (entryFrame m #[(.int i1), (.long j2), (.long j3), (.long j4), (.long j5)] maxLocals)) t := by
            intro t k
            refine pre39 _ ?_
            show Steps p.tables e below (T37.setTop (mkF m 184 #[.val (.int i1), .val (.long j2), .second, .val (.long j3), .second, .val (.long j4), .second, .val (.long j5), .second, .val (.int (own_j0_3_0 i1)), .val (.int (own_j0_16_0 i1)), .val (.long (j2 &&& (9223372036854775807 : Int64))), .second, .val (.long (j3 &&& (9223372036854775807 : Int64))), .second, .val (.long (own_j1_3_0 (j2 &&& (9223372036854775807 : Int64)) (j3 &&& (9223372036854775807 : Int64)))), .second, .val (.long (own_j2_3_0 (j2 &&& (9223372036854775807 : Int64)) (j3 &&& (9223372036854775807 : Int64)))), .second, .val (.long (own_j0_60_0 i1 j4)), .second, .val (.long (j5 &&& (9223372036854775807 : Int64))), .second, .val (.ref b19), .val (.ref b23_0)] [(.int (own_j0_16_0 i1)), (.int (nar .boolean (nar .boolean (own_j0_16_0 i1))))])) _
            refine XS.icmpYes X37.here hx rfl (pc0 := 184) (pc' := 191) rfl (hb hby at_184) rfl (feq hc184_40).2 (by decide) (by decide) ?_
            show Steps p.tables e below (T37.setTop (mkF m 191 #[.val (.int i1), .val (.long j2), .second, .val (.long j3), .second, .val (.long j4), .second, .val (.long j5), .second, .val (.int (own_j0_3_0 i1)), .val (.int (own_j0_16_0 i1)), .val (.long (j2 &&& (9223372036854775807 : Int64))), .second, .val (.long (j3 &&& (9223372036854775807 : Int64))), .second, .val (.long (own_j1_3_0 (j2 &&& (9223372036854775807 : Int64)) (j3 &&& (9223372036854775807 : Int64)))), .second, .val (.long (own_j2_3_0 (j2 &&& (9223372036854775807 : Int64)) (j3 &&& (9223372036854775807 : Int64)))), .second, .val (.long (own_j0_60_0 i1 j4)), .second, .val (.long (j5 &&& (9223372036854775807 : Int64))), .second, .val (.ref b19), .val (.ref b23_0)] [])) _
            refine XS.iconst X37.here hx rfl (hb hby at_191) ?_
            exact k
          exact ⟨T37, _, X37, N37, e37, fun t k => pre42 t (by rw [show (own_j0_122_0 i1) = (0 : Int32) from ((if_pos hc122_27).trans ((if_neg hc174_34).trans (if_neg hc184_40)))] at k; exact k)⟩
    · have pre43 : ∀ t, Steps p.tables e below (T25.setTop (mkF m 192 #[.val (.int i1), .val (.long j2), .second, .val (.long j3), .second, .val (.long j4), .second, .val (.long j5), .second, .val (.int (own_j0_3_0 i1)), .val (.int (own_j0_16_0 i1)), .val (.long (j2 &&& (9223372036854775807 : Int64))), .second, .val (.long (j3 &&& (9223372036854775807 : Int64))), .second, .val (.long (own_j1_3_0 (j2 &&& (9223372036854775807 : Int64)) (j3 &&& (9223372036854775807 : Int64)))), .second, .val (.long (own_j2_3_0 (j2 &&& (9223372036854775807 : Int64)) (j3 &&& (9223372036854775807 : Int64)))), .second, .val (.long (own_j0_60_0 i1 j4)), .second, .val (.long (j5 &&& (9223372036854775807 : Int64))), .second, .val (.ref b19), .val (.ref b23_0)] [(.int (0 : Int32))])) t → Steps p.tables e below (s₁.setTop (entryFrame m #[(.int i1), (.long j2), (.long j3), (.long j4), (.long j5)] maxLocals)) t := by
        intro t k
        refine pre26 _ ?_
        show Steps p.tables e below (T25.setTop (mkF m 122 #[.val (.int i1), .val (.long j2), .second, .val (.long j3), .second, .val (.long j4), .second, .val (.long j5), .second, .val (.int (own_j0_3_0 i1)), .val (.int (own_j0_16_0 i1)), .val (.long (j2 &&& (9223372036854775807 : Int64))), .second, .val (.long (j3 &&& (9223372036854775807 : Int64))), .second, .val (.long (own_j1_3_0 (j2 &&& (9223372036854775807 : Int64)) (j3 &&& (9223372036854775807 : Int64)))), .second, .val (.long (own_j2_3_0 (j2 &&& (9223372036854775807 : Int64)) (j3 &&& (9223372036854775807 : Int64)))), .second, .val (.long (own_j0_60_0 i1 j4)), .second, .val (.long (j5 &&& (9223372036854775807 : Int64))), .second, .val (.ref b19), .val (.ref b23_0)] [(.int (own_j0_3_0 i1)), (.int (nar .boolean (nar .boolean (nar .boolean (own_j0_3_0 i1)))))])) _
        refine XS.icmpYes X25.here hx rfl (pc0 := 122) (pc' := 191) rfl (hb hby at_122) rfl (feq hc122_27).2 (by decide) (by decide) ?_
        show Steps p.tables e below (T25.setTop (mkF m 191 #[.val (.int i1), .val (.long j2), .second, .val (.long j3), .second, .val (.long j4), .second, .val (.long j5), .second, .val (.int (own_j0_3_0 i1)), .val (.int (own_j0_16_0 i1)), .val (.long (j2 &&& (9223372036854775807 : Int64))), .second, .val (.long (j3 &&& (9223372036854775807 : Int64))), .second, .val (.long (own_j1_3_0 (j2 &&& (9223372036854775807 : Int64)) (j3 &&& (9223372036854775807 : Int64)))), .second, .val (.long (own_j2_3_0 (j2 &&& (9223372036854775807 : Int64)) (j3 &&& (9223372036854775807 : Int64)))), .second, .val (.long (own_j0_60_0 i1 j4)), .second, .val (.long (j5 &&& (9223372036854775807 : Int64))), .second, .val (.ref b19), .val (.ref b23_0)] [])) _
        refine XS.iconst X25.here hx rfl (hb hby at_191) ?_
        exact k
      exact ⟨T25, _, X25, N25, e25, fun t k => pre43 t (by rw [show (own_j0_122_0 i1) = (0 : Int32) from (if_neg hc122_27)] at k; exact k)⟩
  obtain ⟨fs, hr, hrun, hended, hW, hsame⟩ := X44.leave (v := some (.int (nar .boolean (own_j0_122_0 i1)))) (fun h => by rw [Bd.returns] at h; cases h)
  refine ⟨_, _, pre44 _ ?_, hrun, hended, _, _, rfl, ?_, ⟨_, rfl⟩, hW, hsame.mono (by decide) (by decide)⟩
  · show Steps p.tables e below (T44.setTop (mkF m 192 #[.val (.int i1), .val (.long j2), .second, .val (.long j3), .second, .val (.long j4), .second, .val (.long j5), .second, .val (.int (own_j0_3_0 i1)), .val (.int (own_j0_16_0 i1)), .val (.long (j2 &&& (9223372036854775807 : Int64))), .second, .val (.long (j3 &&& (9223372036854775807 : Int64))), .second, .val (.long (own_j1_3_0 (j2 &&& (9223372036854775807 : Int64)) (j3 &&& (9223372036854775807 : Int64)))), .second, .val (.long (own_j2_3_0 (j2 &&& (9223372036854775807 : Int64)) (j3 &&& (9223372036854775807 : Int64)))), .second, .val (.long (own_j0_60_0 i1 j4)), .second, .val (.long (j5 &&& (9223372036854775807 : Int64))), .second, .val (.ref b19), .val (.ref b23_0)] [(.int (own_j0_122_0 i1))])) _
    exact retN X44 hx (t := .boolean) Bd.returns (by simp) (hb hby at_192) hr
  · show Q0 Z i1 j2 j3 j4 j5 h0 n0 _ T44.heap _
    rw [e44]
    exact ⟨rfl, N44⟩
theorem own_law (i1 : Int32) (j2 : Int64) (j3 : Int64) (j4 : Int64) (j5 : Int64) : (nar .boolean (own_j0_122_0 i1)) = 1 := by
  apply own_nar1
  have e3 : own_j0_3_0 i1 = 0 ∨ own_j0_3_0 i1 = 1 := by unfold own_j0_3_0; split <;> simp
  have e16 : own_j0_16_0 i1 = 0 ∨ own_j0_16_0 i1 = 1 := by unfold own_j0_16_0; split <;> simp
  unfold own_j0_122_0
  rcases e3 with e3 | e3 <;> rcases e16 with e16 | e16 <;> rw [e3, e16] <;> decide
set_option maxRecDepth 65536 in
set_option maxHeartbeats 40000000 in
theorem comes_1 {Post : Tables → Env → Array Value → State → Outcome → State → Prop} (hpost : ∀ tb e args s v u, (limb_1_1.after args s (.returned v) u = true ∧ limb_1_2.after args s (.returned v) u = true ∧ True) → FrameEnd s (.returned v) u (Jvm.fieldLocs frame_1_writes args s ++ Jvm.arrayLocs frame_1_arrays args s ++ Jvm.staticLocs frame_1_statics s) 16 128 → Post tb e args s (.returned v) u) :
    ArmFor flags0 classFile x code maxLocals ret World_1 tables_1 room_1 Calls_1 rest_1 Pre_1 Post := by
  intro l hfl _ _ p e ha hc hk s m args below hf hA hF happ hP
  obtain ⟨hcalls, hrest, hpre⟩ := hP
  obtain ⟨-, -, -, hnamed, -, -, -, hat⟩ := (Spec.applies_iff hf).mp happ
  obtain ⟨hg, hn⟩ := and_e (Cond.before_iff.mp (show (Jvm.Cond.and given_1 narrow_1).before args s = true from hpre))
  obtain ⟨g1, g2⟩ := and_e hg
  obtain ⟨g3, g4⟩ := and_e g2
  obtain ⟨g5, g6⟩ := and_e g4
  obtain ⟨g7, g8⟩ := and_e g6
  obtain ⟨g9, g10⟩ := and_e g8
  obtain ⟨w0, w1, w2, w3, w4, rfl⟩ : ∃ w0 w1 w2 w3 w4 : Value, args = #[w0, w1, w2, w3, w4] := by
    have hs : args.size = 5 := by simpa [Cond.value, given_1] using g1
    obtain ⟨L⟩ := args
    match L, hs with
    | [w0, w1, w2, w3, w4], _ => exact ⟨w0, w1, w2, w3, w4, rfl⟩
  have hw := fun d (hd : d ∈ tables_1) => atoms_spec (ws := Jvm.Cond.code x code maxLocals ret :: tables_1) hat d (List.mem_cons_of_mem _ hd)
  have hfit : Fit s := fun {y c} hc i hi => by
    obtain ⟨ha, rfl⟩ := Array.getElem?_eq_some_iff.mp hc
    have q := List.all_eq_true.mp ((Array.all_eq_true_iff_forall_mem.mp hF) _ (Array.getElem_mem ha)) i (List.mem_range.mpr hi)
    simpa [Array.getElem?_eq_getElem hi] using q
  obtain ⟨i0, ei0⟩ := is_v g3
  obtain rfl : w0 = (.int i0) := Option.some.inj ei0
  obtain ⟨i1, ei1⟩ := isL_v g5
  obtain rfl : w1 = (.long i1) := Option.some.inj ei1
  obtain ⟨i2, ei2⟩ := isL_v g7
  obtain rfl : w2 = (.long i2) := Option.some.inj ei2
  obtain ⟨i3, ei3⟩ := isL_v g9
  obtain rfl : w3 = (.long i3) := Option.some.inj ei3
  obtain ⟨i4, ei4⟩ := isL_v g10
  obtain rfl : w4 = (.long i4) := Option.some.inj ei4
  obtain ⟨n, o, h1, h2, h3, _, L, rfl, ⟨hv, N⟩, hq⟩ := rm0 l s _ hw tables_1 i0 i1 i2 i3 i4 s.heap s.heap.size (Nat.le_refl _)  p e ha hc hk s m _ below hf ((Spec.applies_iff_loose hf).mp happ).1 ⟨rfl, State.Warmed39.refl s, rfl⟩ trivial
  rw [show (nar .boolean (own_j0_122_0 i0)) = 1 from own_law i0 i1 i2 i3 i4] at hv
  subst hv
  refine ⟨n, _, h1, h2, h3, hpost _ _ _ _ _ _ ⟨Cond.after_iff.mpr rfl, Cond.after_iff.mpr (eq_i res_at (Term.int_eval (1)) rfl), trivial⟩ ⟨hq.1, hq.2.1, (hq.2.2.sift fun y hy => Or.inr (N y hy)).mono (by decide) (by decide)⟩⟩
theorem main_1_1 : Claimed_1_1 := comes_1 fun _ _ _ _ _ _ h hF => ⟨h.1, hF⟩
theorem main_1_2 : Claimed_1_2 := comes_1 fun _ _ _ _ _ _ h hF => ⟨h.2.1, hF⟩
end Jvm.Pilot.@@N@@
namespace Jvm.Pilot.@@N@@
open Jvm Jvm.ClassFile Sem Op Lib Jvm.Free Jvm.Stand Jvm.Pilot.@@N@@.Jvm.D
/-! MADE BY PROGRAM (witnessworld.py) out of the Statement's table words and the real class files: 11 classes; the members and pool entries that the words name. The judged class is class 1, her method 1. -/
namespace start1
open Jvm.ClassFile
def u (s : String) : CpInfo := .utf8 (stringToUtf16 s)
/-- a pool by its gaps: so many unusable entries, then the entry; so many at the end -/
def gap : Nat → List CpInfo → List CpInfo
  | 0, r => r
  | n + 1, r => .unusable :: gap n r
def poolList (es : List (Nat × CpInfo)) (last : Nat) : List CpInfo := es.foldr (fun e r => gap e.1 (e.2 :: r)) (gap last [])
def pool (es : List (Nat × CpInfo)) (last : Nat) : Array CpInfo := ⟨poolList es last⟩
def fileOf (pool : Array CpInfo) (this : Nat) (attrs : Array Attribute := #[]) (ms : Array MethodInfo := #[]) (fl : Nat := 33) (sup : Nat := 0) (ifs : Array Nat := #[]) (fds : Array FieldInfo := #[]) : ClassFile where
  minorVersion := 0
  majorVersion := 65
  constantPool := pool
  accessFlags := fl
  thisClass := this
  superClass := sup
  interfaces := ifs
  fields := fds
  methods := ms
  attributes := attrs
def plain (name : String) (sup : Option ClassId) : Class where
  name := name
  kind := .ordinary
  loader := none
  accessFlags := 33
  super := sup
  interfaces := #[]
  cf := none
  fields := #[]
  methods := #[]
  instanceTypes := #[]
  staticTypes := #[]
  resolved := #[]
  callSites := []
  init := .initialized
  statics := none
  mirror := none

def pool0 : Array CpInfo := pool [(5, u "<init>"), (0, u "()V"), (1, .class_ 10), (1, u "java/lang/Object")] 113

def k0c0 : Code := { maxStack := 0, maxLocals := 1, code := object_method_1_code, exceptionTable := #[], attributes := #[] }
def k0m0 : Method := { name := "<init>", desc := "()V", sig := { parameters := [], returnType := none }, accessFlags := 1, code := some k0c0 }
/-- java/lang/Object -/
def k0 : Class := { plain "java/lang/Object" none with
  accessFlags := 33
  interfaces := #[]
  cf := some (fileOf pool0 8 #[] #[{ accessFlags := 1, nameIndex := 5, descriptorIndex := 6, attributes := #[] }] 33 0 #[] #[])
  fields := #[]
  methods := #[k0m0]
  instanceTypes := #[]
  staticTypes := #[]
  resolved := Array.replicate 124 none
  statics := none }

def pool1 : Array CpInfo := pool [(2, .class_ 4), (1, u "java/lang/Object"), (0, u "<init>"), (0, u "()V"), (2, .long 9223372036854775807), (1, .methodref 12 13), (0, .class_ 14), (0, .nameAndType 15 16), (0, u "java/lang/Math"), (0, u "max"), (0, u "(JJ)J"), (0, .methodref 12 18), (0, .nameAndType 19 16), (0, u "min"), (0, .class_ 21), (0, u "com/example/burst/burst/Decision"), (0, .long 18446744073709551615), (1, .methodref 20 25), (0, .nameAndType 5 26), (0, u "(ZJJJJZ)V"), (0, .methodref 20 28), (0, .nameAndType 29 30), (0, u "asDegraded"), (0, u "()Lcom/example/burst/burst/Decision;"), (0, .methodref 20 32), (0, .nameAndType 33 34), (0, u "allowed"), (0, u "()Z"), (0, .methodref 20 36), (0, .nameAndType 37 38), (0, u "limit"), (0, u "()J"), (0, .methodref 20 40), (0, .nameAndType 41 38), (0, u "remaining"), (0, .methodref 20 43), (0, .nameAndType 44 38), (0, u "retryAfterMillis"), (0, .methodref 20 46), (0, .nameAndType 47 38), (0, u "resetAfterMillis"), (0, .methodref 20 49), (0, .nameAndType 50 34), (0, u "degraded"), (0, .class_ 52), (0, u "com/example/burst/burst/DecisionAsDegradedPinLaw"), (2, u "law"), (0, u "(IJJJJ)Z")] 3

def k1m0 : Method := { name := "<init>", desc := "()V", sig := { parameters := [], returnType := none }, accessFlags := 2, code := none }
def k1c1 : Code := { maxStack := 12, maxLocals := 25, code := code, exceptionTable := #[], attributes := #[] }
def k1m1 : Method := { name := "law", desc := "(IJJJJ)Z", sig := { parameters := [.int, .long, .long, .long, .long], returnType := some .boolean }, accessFlags := 9, code := some k1c1 }
/-- com/example/burst/burst/DecisionAsDegradedPinLaw -/
def k1 : Class := { plain "com/example/burst/burst/DecisionAsDegradedPinLaw" (some 0) with
  accessFlags := 49
  interfaces := #[]
  cf := some (fileOf pool1 51 #[] #[{ accessFlags := 2, nameIndex := 5, descriptorIndex := 6, attributes := #[] }, { accessFlags := 9, nameIndex := 55, descriptorIndex := 56, attributes := #[] }] 49 2 #[] #[])
  fields := #[]
  methods := #[k1m0, k1m1]
  instanceTypes := #[]
  staticTypes := #[]
  resolved := Array.replicate 60 none
  statics := none }

def pool2 : Array CpInfo := pool [(1, .class_ 2), (0, u "java/lang/Math"), (1, .class_ 6), (1, u "java/lang/Object"), (0, u "<init>"), (0, u "()V"), (89, .class_ 100), (1, u "java/lang/Math$RandomNumberGeneratorHolder"), (20, u "(JJ)J"), (50, u "negativeZeroFloatBits"), (0, u "J"), (2, u "negativeZeroDoubleBits"), (21, u "max"), (2, u "min"), (43, u "$assertionsDisabled"), (0, u "Z"), (91, u "twoToTheDoubleScaleDown"), (0, u "D"), (4, u "twoToTheDoubleScaleUp"), (9, u "E"), (3, u "PI"), (2, u "TAU"), (2, u "DEGREES_TO_RADIANS"), (0, u "RADIANS_TO_DEGREES")] 94

def k2m0 : Method := { name := "<init>", desc := "()V", sig := { parameters := [], returnType := none }, accessFlags := 2, code := none }
def k2c1 : Code := { maxStack := 4, maxLocals := 4, code := jdk_29_method_66_code, exceptionTable := #[], attributes := #[] }
def k2m1 : Method := { name := "max", desc := "(JJ)J", sig := { parameters := [.long, .long], returnType := some .long }, accessFlags := 9, code := some k2c1 }
def k2c2 : Code := { maxStack := 4, maxLocals := 4, code := jdk_29_method_70_code, exceptionTable := #[], attributes := #[] }
def k2m2 : Method := { name := "min", desc := "(JJ)J", sig := { parameters := [.long, .long], returnType := some .long }, accessFlags := 9, code := some k2c2 }
/-- java/lang/Math -/
def k2 : Class := { plain "java/lang/Math" (some 0) with
  accessFlags := 49
  interfaces := #[]
  cf := some (fileOf pool2 1 #[.nestMembers #[98]] #[{ accessFlags := 2, nameIndex := 7, descriptorIndex := 8, attributes := #[] }, { accessFlags := 9, nameIndex := 198, descriptorIndex := 121, attributes := #[] }, { accessFlags := 9, nameIndex := 201, descriptorIndex := 121, attributes := #[] }] 49 4 #[] #[{ accessFlags := 25, nameIndex := 354, descriptorIndex := 339, attributes := #[] }, { accessFlags := 25, nameIndex := 358, descriptorIndex := 339, attributes := #[] }, { accessFlags := 25, nameIndex := 361, descriptorIndex := 339, attributes := #[] }, { accessFlags := 26, nameIndex := 364, descriptorIndex := 339, attributes := #[] }, { accessFlags := 26, nameIndex := 365, descriptorIndex := 339, attributes := #[] }, { accessFlags := 26, nameIndex := 172, descriptorIndex := 173, attributes := #[] }, { accessFlags := 26, nameIndex := 176, descriptorIndex := 173, attributes := #[] }, { accessFlags := 8, nameIndex := 344, descriptorIndex := 339, attributes := #[] }, { accessFlags := 8, nameIndex := 338, descriptorIndex := 339, attributes := #[] }, { accessFlags := 4120, nameIndex := 245, descriptorIndex := 246, attributes := #[] }])
  fields := #[{ name := "E", type := .double, accessFlags := 25, slot := 0, constantValue := 0 }, { name := "PI", type := .double, accessFlags := 25, slot := 1, constantValue := 0 }, { name := "TAU", type := .double, accessFlags := 25, slot := 2, constantValue := 0 }, { name := "DEGREES_TO_RADIANS", type := .double, accessFlags := 26, slot := 3, constantValue := 0 }, { name := "RADIANS_TO_DEGREES", type := .double, accessFlags := 26, slot := 4, constantValue := 0 }, { name := "negativeZeroFloatBits", type := .long, accessFlags := 26, slot := 5, constantValue := 0 }, { name := "negativeZeroDoubleBits", type := .long, accessFlags := 26, slot := 6, constantValue := 0 }, { name := "twoToTheDoubleScaleUp", type := .double, accessFlags := 8, slot := 7, constantValue := 0 }, { name := "twoToTheDoubleScaleDown", type := .double, accessFlags := 8, slot := 8, constantValue := 0 }, { name := "$assertionsDisabled", type := .boolean, accessFlags := 4120, slot := 9, constantValue := 0 }]
  methods := #[k2m0, k2m1, k2m2]
  instanceTypes := #[]
  staticTypes := #[.double, .double, .double, .double, .double, .long, .long, .double, .double, .boolean]
  resolved := Array.replicate 460 none
  statics := none }

def pool3 : Array CpInfo := pool [(1, .methodref 2 3), (0, .class_ 4), (0, .nameAndType 5 6), (0, u "java/lang/Object"), (0, u "<init>"), (0, u "()V"), (0, .class_ 8), (0, u "java/lang/Record")] 13

def k3c0 : Code := { maxStack := 1, maxLocals := 1, code := jdk_30_method_1_code, exceptionTable := #[], attributes := #[] }
def k3m0 : Method := { name := "<init>", desc := "()V", sig := { parameters := [], returnType := none }, accessFlags := 4, code := some k3c0 }
/-- java/lang/Record -/
def k3 : Class := { plain "java/lang/Record" (some 0) with
  accessFlags := 1057
  interfaces := #[]
  cf := some (fileOf pool3 7 #[] #[{ accessFlags := 4, nameIndex := 5, descriptorIndex := 6, attributes := #[] }] 1057 2 #[] #[])
  fields := #[]
  methods := #[k3m0]
  instanceTypes := #[]
  staticTypes := #[]
  resolved := Array.replicate 22 none
  statics := none }

def pool4 : Array CpInfo := pool [(1, .methodref 2 3), (0, .class_ 4), (0, .nameAndType 5 6), (0, u "java/lang/Record"), (0, u "<init>"), (0, u "()V"), (9, .class_ 17), (0, u "com/example/burst/burst/Decision"), (0, .long 18446744073709551615), (6, .fieldref 16 26), (0, .nameAndType 27 28), (0, u "allowed"), (0, u "Z"), (0, .fieldref 16 30), (0, .nameAndType 31 32), (0, u "limit"), (0, u "J"), (0, .fieldref 16 34), (0, .nameAndType 35 32), (0, u "remaining"), (0, .fieldref 16 37), (0, .nameAndType 38 32), (0, u "retryAfterMillis"), (0, .fieldref 16 40), (0, .nameAndType 41 32), (0, u "resetAfterMillis"), (0, .fieldref 16 43), (0, .nameAndType 44 28), (0, u "degraded"), (0, .methodref 16 46), (0, .nameAndType 5 47), (0, u "(ZJJJJZ)V"), (24, u "NO_RETRY"), (1, u "MILLIS_PER_SECOND"), (6, u "()J"), (1, u "asDegraded"), (0, u "()Lcom/example/burst/burst/Decision;"), (3, u "()Z")] 39

def k4c0 : Code := { maxStack := 6, maxLocals := 11, code := prog_3_method_1_code, exceptionTable := #[], attributes := #[] }
def k4m0 : Method := { name := "<init>", desc := "(ZJJJJZ)V", sig := { parameters := [.boolean, .long, .long, .long, .long, .boolean], returnType := none }, accessFlags := 1, code := some k4c0 }
def k4c1 : Code := { maxStack := 12, maxLocals := 1, code := prog_3_method_5_code, exceptionTable := #[], attributes := #[] }
def k4m1 : Method := { name := "asDegraded", desc := "()Lcom/example/burst/burst/Decision;", sig := { parameters := [], returnType := some (.object "com/example/burst/burst/Decision") }, accessFlags := 0, code := some k4c1 }
def k4c2 : Code := { maxStack := 1, maxLocals := 1, code := prog_3_method_10_code, exceptionTable := #[], attributes := #[] }
def k4m2 : Method := { name := "allowed", desc := "()Z", sig := { parameters := [], returnType := some .boolean }, accessFlags := 1, code := some k4c2 }
def k4c3 : Code := { maxStack := 2, maxLocals := 1, code := prog_3_method_11_code, exceptionTable := #[], attributes := #[] }
def k4m3 : Method := { name := "limit", desc := "()J", sig := { parameters := [], returnType := some .long }, accessFlags := 1, code := some k4c3 }
def k4c4 : Code := { maxStack := 2, maxLocals := 1, code := prog_3_method_12_code, exceptionTable := #[], attributes := #[] }
def k4m4 : Method := { name := "remaining", desc := "()J", sig := { parameters := [], returnType := some .long }, accessFlags := 1, code := some k4c4 }
def k4c5 : Code := { maxStack := 2, maxLocals := 1, code := prog_3_method_13_code, exceptionTable := #[], attributes := #[] }
def k4m5 : Method := { name := "retryAfterMillis", desc := "()J", sig := { parameters := [], returnType := some .long }, accessFlags := 1, code := some k4c5 }
def k4c6 : Code := { maxStack := 2, maxLocals := 1, code := prog_3_method_14_code, exceptionTable := #[], attributes := #[] }
def k4m6 : Method := { name := "resetAfterMillis", desc := "()J", sig := { parameters := [], returnType := some .long }, accessFlags := 1, code := some k4c6 }
def k4c7 : Code := { maxStack := 1, maxLocals := 1, code := prog_3_method_15_code, exceptionTable := #[], attributes := #[] }
def k4m7 : Method := { name := "degraded", desc := "()Z", sig := { parameters := [], returnType := some .boolean }, accessFlags := 1, code := some k4c7 }
/-- com/example/burst/burst/Decision -/
def k4 : Class := { plain "com/example/burst/burst/Decision" (some 3) with
  accessFlags := 49
  interfaces := #[]
  cf := some (fileOf pool4 16 #[] #[{ accessFlags := 1, nameIndex := 5, descriptorIndex := 47, attributes := #[] }, { accessFlags := 0, nameIndex := 83, descriptorIndex := 84, attributes := #[] }, { accessFlags := 1, nameIndex := 27, descriptorIndex := 88, attributes := #[] }, { accessFlags := 1, nameIndex := 31, descriptorIndex := 81, attributes := #[] }, { accessFlags := 1, nameIndex := 35, descriptorIndex := 81, attributes := #[] }, { accessFlags := 1, nameIndex := 38, descriptorIndex := 81, attributes := #[] }, { accessFlags := 1, nameIndex := 41, descriptorIndex := 81, attributes := #[] }, { accessFlags := 1, nameIndex := 44, descriptorIndex := 88, attributes := #[] }] 49 2 #[] #[{ accessFlags := 18, nameIndex := 27, descriptorIndex := 28, attributes := #[] }, { accessFlags := 18, nameIndex := 31, descriptorIndex := 32, attributes := #[] }, { accessFlags := 18, nameIndex := 35, descriptorIndex := 32, attributes := #[] }, { accessFlags := 18, nameIndex := 38, descriptorIndex := 32, attributes := #[] }, { accessFlags := 18, nameIndex := 41, descriptorIndex := 32, attributes := #[] }, { accessFlags := 18, nameIndex := 44, descriptorIndex := 28, attributes := #[] }, { accessFlags := 25, nameIndex := 72, descriptorIndex := 32, attributes := #[] }, { accessFlags := 26, nameIndex := 74, descriptorIndex := 32, attributes := #[] }])
  fields := #[{ name := "allowed", type := .boolean, accessFlags := 18, slot := 0, constantValue := 0 }, { name := "limit", type := .long, accessFlags := 18, slot := 1, constantValue := 0 }, { name := "remaining", type := .long, accessFlags := 18, slot := 2, constantValue := 0 }, { name := "retryAfterMillis", type := .long, accessFlags := 18, slot := 3, constantValue := 0 }, { name := "resetAfterMillis", type := .long, accessFlags := 18, slot := 4, constantValue := 0 }, { name := "degraded", type := .boolean, accessFlags := 18, slot := 5, constantValue := 0 }, { name := "NO_RETRY", type := .long, accessFlags := 25, slot := 0, constantValue := 0 }, { name := "MILLIS_PER_SECOND", type := .long, accessFlags := 26, slot := 1, constantValue := 0 }]
  methods := #[k4m0, k4m1, k4m2, k4m3, k4m4, k4m5, k4m6, k4m7]
  instanceTypes := #[.boolean, .long, .long, .long, .long, .boolean]
  staticTypes := #[.long, .long]
  resolved := Array.replicate 128 none
  statics := none }

def pool5 : Array CpInfo := pool [(1, u "java/lang/Cloneable"), (0, .class_ 1), (0, u "java/lang/Object"), (0, .class_ 3)] 3

/-- java/lang/Cloneable -/
def k5 : Class := { plain "java/lang/Cloneable" (some 0) with
  accessFlags := 1537
  interfaces := #[]
  cf := some (fileOf pool5 2 #[] #[] 1537 4 #[] #[])
  fields := #[]
  methods := #[]
  instanceTypes := #[]
  staticTypes := #[]
  resolved := Array.replicate 8 none
  statics := none }

def pool6 : Array CpInfo := pool [(1, u "java/io/Serializable"), (0, .class_ 1), (0, u "java/lang/Object"), (0, .class_ 3)] 3

/-- java/io/Serializable -/
def k6 : Class := { plain "java/io/Serializable" (some 0) with
  accessFlags := 1537
  interfaces := #[]
  cf := some (fileOf pool6 2 #[] #[] 1537 4 #[] #[])
  fields := #[]
  methods := #[]
  instanceTypes := #[]
  staticTypes := #[]
  resolved := Array.replicate 8 none
  statics := none }

/-- the primitive byte -/
def k7 : Class := { plain "byte" none with kind := .primitive 'B', accessFlags := 0x411 }
/-- [B -/
def k8 : Class := { plain "[B" (some 0) with kind := .array 7 .byte, interfaces := #[5, 6], accessFlags := 1041 }

/-- the primitive int -/
def k9 : Class := { plain "int" none with kind := .primitive 'I', accessFlags := 0x411 }
/-- [I -/
def k10 : Class := { plain "[I" (some 0) with kind := .array 9 .int, interfaces := #[5, 6], accessFlags := 1041 }

def heap : Heap := #[]
def classes : Array Class := #[k0, k1, k2, k3, k4, k5, k6, k7, k8, k9, k10]
def interned : List (Array UInt16 × Addr) := []
def slotsUsed : Nat := 0
def theMethod : MethodId := ⟨1, 1⟩
def args0 : Array Value := #[.int 5, .long 6, .long 7, .long 8, .long 9]
def aboutOver (below : List Frame) : State where
  vm := { classes := classes, interned := interned.toArray }
  heap := heap
  slotsUsed := slotsUsed
  threads := #[{ frames := .invoking theMethod args0 :: below }]
def below0 : List Frame := [.native { method := ⟨0, 0⟩, args := #[] }]
def about1 : State := aboutOver below0
def p0 : Program := .bare "" "" ""
def e0 : Env := launch0.env 0 0 0
theorem w_frames : about1.frames = Frame.invoking theMethod args0 :: below0 := rfl
set_option maxRecDepth 65536 in
theorem w_args : argsFit about1.vm theMethod args0 = true := by decide +kernel
set_option maxRecDepth 65536 in
theorem w_heap : heapFits about1 = true := by decide +kernel
set_option maxRecDepth 65536 in
theorem w_runnable : about1.curStatus? = some .runnable := by decide +kernel
set_option maxRecDepth 65536 in
theorem w_alone : about1.alone = true := by decide +kernel
set_option maxRecDepth 65536 in
theorem w_named : about1.methodNamed? x = some theMethod := by decide +kernel
set_option maxRecDepth 65536 in
theorem w_hears : about1.hears theMethod below0 = true := by decide +kernel
set_option maxRecDepth 65536 in
theorem w_ripe : about1.ripe theMethod args0 below0 = true := by decide +kernel
theorem w_running : about1.status = .running := rfl
set_option maxRecDepth 65536 in
theorem w_room : about1.hasRoom e0.platform room_1 = true :=
  launch0.hasRoom_least _ room_1 (by decide +kernel) (by decide +kernel) (by decide +kernel) (by decide +kernel) (by decide +kernel) (by decide +kernel)
theorem allAtoms_all (ts : List Jvm.Cond) (a : Array Jvm.Value) (st : Jvm.State) : (allAtoms ts).before a st = ts.all (fun c => c.before a st) := by
  induction ts with
  | nil => rfl
  | cons c t ih =>
    show (Jvm.Cond.and c (allAtoms t)).before a st = _
    rw [Jvm.Cond.before_and, ih, List.all_cons]
def words1 : List Jvm.Cond := Jvm.Cond.code x code maxLocals ret :: tables_1
/-- a 'code' word, met by the world's own term for the bytes: nothing is compared byte by byte -/
theorem code_word {y : MethodName} {bytes : ByteArray} {mx : Nat} {rt : Option FieldType} {a : Array Value} {s : State} {m : MethodId} {meth : Method} {c : Code} (h1 : s.methodNamed? y = some m) (h2 : s.vm.method? m = some meth) (h3 : meth.code = some c) (h4 : c.code = bytes)
    (h5 : (c.maxLocals == mx && c.exceptionTable.isEmpty && decide (c.maxStack ≤ mostOperands) && decide (meth.sig.returnType = rt) && !meth.locks && decide (parseMethodDescriptor y.desc = some meth.sig)) = true) : (Jvm.Cond.code y bytes mx rt).before a s = true := by
  simp only [Bool.and_eq_true, beq_iff_eq, Bool.not_eq_true', decide_eq_true_eq] at h5
  obtain ⟨⟨⟨⟨⟨g1, g2⟩, g3⟩, g4⟩, g5⟩, g6⟩ := h5
  simp [Cond.before, Cond.holds, Cond.value, h1, h2, h3, h4, g1, g2, g3, g4, g5, g6]
def isCode : Jvm.Cond → Bool
  | .code _ _ _ _ => true
  | _ => false
theorem all_split {L : List Jvm.Cond} {P : Jvm.Cond → Bool} (h1 : L.all (fun c => isCode c || P c) = true) (h2 : ∀ c ∈ L.filter isCode, P c = true) : L.all P = true := by
  refine List.all_eq_true.mpr fun c hc => ?_
  have h := List.all_eq_true.mp h1 c hc
  rcases Bool.eq_false_or_eq_true (isCode c) with hi | hi
  · exact h2 c (List.mem_filter.mpr ⟨hc, hi⟩)
  · simpa [hi] using h
set_option maxRecDepth 65536 in
theorem w_c0 : (Jvm.Cond.code x code maxLocals ret).before args0 about1 = true := code_word (m := ⟨1, 1⟩) (meth := k1m1) (c := k1c1) (by decide +kernel) rfl rfl rfl (by decide +kernel)
set_option maxRecDepth 65536 in
theorem w_c1 : (Jvm.Cond.code ({ cls := "java/lang/Math", name := "max", desc := "(JJ)J" } : Jvm.MethodName) jdk_29_method_66_code (4 : Nat) (Option.some Jvm.ClassFile.FieldType.long)).before args0 about1 = true := code_word (m := ⟨2, 1⟩) (meth := k2m1) (c := k2c1) (by decide +kernel) rfl rfl rfl (by decide +kernel)
set_option maxRecDepth 65536 in
theorem w_c2 : (Jvm.Cond.code ({ cls := "java/lang/Math", name := "min", desc := "(JJ)J" } : Jvm.MethodName) jdk_29_method_70_code (4 : Nat) (Option.some Jvm.ClassFile.FieldType.long)).before args0 about1 = true := code_word (m := ⟨2, 2⟩) (meth := k2m2) (c := k2c2) (by decide +kernel) rfl rfl rfl (by decide +kernel)
set_option maxRecDepth 65536 in
theorem w_c3 : (Jvm.Cond.code ({ cls := "com/example/burst/burst/Decision", name := "<init>", desc := "(ZJJJJZ)V" } : Jvm.MethodName) prog_3_method_1_code (11 : Nat) (Option.none : Option Jvm.ClassFile.FieldType)).before args0 about1 = true := code_word (m := ⟨4, 0⟩) (meth := k4m0) (c := k4c0) (by decide +kernel) rfl rfl rfl (by decide +kernel)
set_option maxRecDepth 65536 in
theorem w_c4 : (Jvm.Cond.code ({ cls := "java/lang/Record", name := "<init>", desc := "()V" } : Jvm.MethodName) jdk_30_method_1_code (1 : Nat) (Option.none : Option Jvm.ClassFile.FieldType)).before args0 about1 = true := code_word (m := ⟨3, 0⟩) (meth := k3m0) (c := k3c0) (by decide +kernel) rfl rfl rfl (by decide +kernel)
set_option maxRecDepth 65536 in
theorem w_c5 : (Jvm.Cond.code ({ cls := "java/lang/Object", name := "<init>", desc := "()V" } : Jvm.MethodName) object_method_1_code (1 : Nat) (Option.none : Option Jvm.ClassFile.FieldType)).before args0 about1 = true := code_word (m := ⟨0, 0⟩) (meth := k0m0) (c := k0c0) (by decide +kernel) rfl rfl rfl (by decide +kernel)
set_option maxRecDepth 65536 in
theorem w_c6 : (Jvm.Cond.code ({ cls := "com/example/burst/burst/Decision", name := "asDegraded", desc := "()Lcom/example/burst/burst/Decision;" } : Jvm.MethodName) prog_3_method_5_code (1 : Nat) (Option.some (Jvm.ClassFile.FieldType.object "com/example/burst/burst/Decision"))).before args0 about1 = true := code_word (m := ⟨4, 1⟩) (meth := k4m1) (c := k4c1) (by decide +kernel) rfl rfl rfl (by decide +kernel)
set_option maxRecDepth 65536 in
theorem w_c7 : (Jvm.Cond.code ({ cls := "com/example/burst/burst/Decision", name := "allowed", desc := "()Z" } : Jvm.MethodName) prog_3_method_10_code (1 : Nat) (Option.some Jvm.ClassFile.FieldType.boolean)).before args0 about1 = true := code_word (m := ⟨4, 2⟩) (meth := k4m2) (c := k4c2) (by decide +kernel) rfl rfl rfl (by decide +kernel)
set_option maxRecDepth 65536 in
theorem w_c8 : (Jvm.Cond.code ({ cls := "com/example/burst/burst/Decision", name := "limit", desc := "()J" } : Jvm.MethodName) prog_3_method_11_code (1 : Nat) (Option.some Jvm.ClassFile.FieldType.long)).before args0 about1 = true := code_word (m := ⟨4, 3⟩) (meth := k4m3) (c := k4c3) (by decide +kernel) rfl rfl rfl (by decide +kernel)
set_option maxRecDepth 65536 in
theorem w_c9 : (Jvm.Cond.code ({ cls := "com/example/burst/burst/Decision", name := "remaining", desc := "()J" } : Jvm.MethodName) prog_3_method_12_code (1 : Nat) (Option.some Jvm.ClassFile.FieldType.long)).before args0 about1 = true := code_word (m := ⟨4, 4⟩) (meth := k4m4) (c := k4c4) (by decide +kernel) rfl rfl rfl (by decide +kernel)
set_option maxRecDepth 65536 in
theorem w_c10 : (Jvm.Cond.code ({ cls := "com/example/burst/burst/Decision", name := "retryAfterMillis", desc := "()J" } : Jvm.MethodName) prog_3_method_13_code (1 : Nat) (Option.some Jvm.ClassFile.FieldType.long)).before args0 about1 = true := code_word (m := ⟨4, 5⟩) (meth := k4m5) (c := k4c5) (by decide +kernel) rfl rfl rfl (by decide +kernel)
set_option maxRecDepth 65536 in
theorem w_c11 : (Jvm.Cond.code ({ cls := "com/example/burst/burst/Decision", name := "resetAfterMillis", desc := "()J" } : Jvm.MethodName) prog_3_method_14_code (1 : Nat) (Option.some Jvm.ClassFile.FieldType.long)).before args0 about1 = true := code_word (m := ⟨4, 6⟩) (meth := k4m6) (c := k4c6) (by decide +kernel) rfl rfl rfl (by decide +kernel)
set_option maxRecDepth 65536 in
theorem w_c12 : (Jvm.Cond.code ({ cls := "com/example/burst/burst/Decision", name := "degraded", desc := "()Z" } : Jvm.MethodName) prog_3_method_15_code (1 : Nat) (Option.some Jvm.ClassFile.FieldType.boolean)).before args0 about1 = true := code_word (m := ⟨4, 7⟩) (meth := k4m7) (c := k4c7) (by decide +kernel) rfl rfl rfl (by decide +kernel)
def codes1 : List Jvm.Cond := [Jvm.Cond.code x code maxLocals ret, Jvm.Cond.code ({ cls := "java/lang/Math", name := "max", desc := "(JJ)J" } : Jvm.MethodName) jdk_29_method_66_code (4 : Nat) (Option.some Jvm.ClassFile.FieldType.long), Jvm.Cond.code ({ cls := "java/lang/Math", name := "min", desc := "(JJ)J" } : Jvm.MethodName) jdk_29_method_70_code (4 : Nat) (Option.some Jvm.ClassFile.FieldType.long), Jvm.Cond.code ({ cls := "com/example/burst/burst/Decision", name := "<init>", desc := "(ZJJJJZ)V" } : Jvm.MethodName) prog_3_method_1_code (11 : Nat) (Option.none : Option Jvm.ClassFile.FieldType), Jvm.Cond.code ({ cls := "java/lang/Record", name := "<init>", desc := "()V" } : Jvm.MethodName) jdk_30_method_1_code (1 : Nat) (Option.none : Option Jvm.ClassFile.FieldType), Jvm.Cond.code ({ cls := "java/lang/Object", name := "<init>", desc := "()V" } : Jvm.MethodName) object_method_1_code (1 : Nat) (Option.none : Option Jvm.ClassFile.FieldType), Jvm.Cond.code ({ cls := "com/example/burst/burst/Decision", name := "asDegraded", desc := "()Lcom/example/burst/burst/Decision;" } : Jvm.MethodName) prog_3_method_5_code (1 : Nat) (Option.some (Jvm.ClassFile.FieldType.object "com/example/burst/burst/Decision")), Jvm.Cond.code ({ cls := "com/example/burst/burst/Decision", name := "allowed", desc := "()Z" } : Jvm.MethodName) prog_3_method_10_code (1 : Nat) (Option.some Jvm.ClassFile.FieldType.boolean), Jvm.Cond.code ({ cls := "com/example/burst/burst/Decision", name := "limit", desc := "()J" } : Jvm.MethodName) prog_3_method_11_code (1 : Nat) (Option.some Jvm.ClassFile.FieldType.long), Jvm.Cond.code ({ cls := "com/example/burst/burst/Decision", name := "remaining", desc := "()J" } : Jvm.MethodName) prog_3_method_12_code (1 : Nat) (Option.some Jvm.ClassFile.FieldType.long), Jvm.Cond.code ({ cls := "com/example/burst/burst/Decision", name := "retryAfterMillis", desc := "()J" } : Jvm.MethodName) prog_3_method_13_code (1 : Nat) (Option.some Jvm.ClassFile.FieldType.long), Jvm.Cond.code ({ cls := "com/example/burst/burst/Decision", name := "resetAfterMillis", desc := "()J" } : Jvm.MethodName) prog_3_method_14_code (1 : Nat) (Option.some Jvm.ClassFile.FieldType.long), Jvm.Cond.code ({ cls := "com/example/burst/burst/Decision", name := "degraded", desc := "()Z" } : Jvm.MethodName) prog_3_method_15_code (1 : Nat) (Option.some Jvm.ClassFile.FieldType.boolean)]
set_option maxRecDepth 65536 in
theorem codes_eq : words1.filter isCode = codes1 := rfl
theorem w_codes : ∀ c ∈ words1.filter isCode, c.before args0 about1 = true := by
  rw [codes_eq]
  intro c hc
  simp only [codes1, List.mem_cons, List.not_mem_nil, or_false] at hc
  rcases hc with rfl | rfl | rfl | rfl | rfl | rfl | rfl | rfl | rfl | rfl | rfl | rfl | rfl
  · exact w_c0
  · exact w_c1
  · exact w_c2
  · exact w_c3
  · exact w_c4
  · exact w_c5
  · exact w_c6
  · exact w_c7
  · exact w_c8
  · exact w_c9
  · exact w_c10
  · exact w_c11
  · exact w_c12
set_option maxRecDepth 65536 in
theorem w_t1 : (words1.take 24).all (fun c => isCode c || c.before args0 about1) = true := by decide +kernel
set_option maxRecDepth 65536 in
theorem w_t2 : ((words1.drop 24).take 24).all (fun c => isCode c || c.before args0 about1) = true := by decide +kernel
set_option maxRecDepth 65536 in
theorem w_t3 : (((words1.drop 24).drop 24).take 24).all (fun c => isCode c || c.before args0 about1) = true := by decide +kernel
set_option maxRecDepth 65536 in
theorem w_t4 : (((words1.drop 24).drop 24).drop 24).all (fun c => isCode c || c.before args0 about1) = true := by decide +kernel
theorem w_tables : (allAtoms (Jvm.Cond.code x code maxLocals ret :: tables_1)).before args0 about1 = true := by
  rw [allAtoms_all]
  show words1.all (fun c => c.before args0 about1) = true
  refine all_split ?_ w_codes
  rw [← List.take_append_drop 24 words1, List.all_append, w_t1, ← List.take_append_drop 24 (words1.drop 24), List.all_append, w_t2, ← List.take_append_drop 24 ((words1.drop 24).drop 24), List.all_append, w_t3, w_t4]
  rfl
set_option maxRecDepth 65536 in
theorem w_case : (Jvm.Cond.and given_1 narrow_1).before args0 about1 = true := by decide +kernel
theorem w_applies : (headSpec (Jvm.Cond.code x code maxLocals ret :: tables_1) room_1).applies x e0.platform about1 = true :=
  (Spec.applies_iff w_frames).mpr ⟨w_running, w_runnable, w_alone, w_named, w_hears, w_ripe, w_room, w_tables⟩
theorem atStart : AtStart classFile x code maxLocals ret World_1 tables_1 room_1 Calls_1 rest_1 Pre_1 launch0 p0 e0 about1 theMethod args0 below0 :=
  ⟨lists_1, trivial, launch0.admits_env _ _ _, launch0.least_env, fairChoices_fair.cas, fairChoices_fair.clock, w_frames, w_args, w_heap, w_applies, trivial, trivial, w_case⟩
end start1
theorem witness_1 : WitnessClaimed_1 := ⟨start1.p0, start1.e0, start1.about1, start1.theMethod, start1.args0, start1.below0, start1.atStart⟩
end Jvm.Pilot.@@N@@
