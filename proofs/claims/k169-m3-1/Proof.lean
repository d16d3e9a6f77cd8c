import JvmDerived
import JvmDerived.Pilot.@@N@@Statement
import JvmDerived.Pilot.@@N@@Code
set_option linter.unusedVariables false
set_option linter.unusedSimpArgs false
namespace Jvm.RoadKit
open Sem ClassFile Op Lib Jvm.Stand Jvm.Free Jvm.LawKit
section New
variable {p : Program} {l : Launch} {e : Env} {R : Room} {s : State} {m : MethodId} {args : Array Value} {below : List Frame} {meth : Method} {c : Code} {T : State} {locs : List Loc} {cells slots : Nat}
theorem retI (X : Stand p l e R s m args below meth c T locs cells slots) (hx : p.tables.exec = Jvm.exec) {pc : Nat} {Ls : Array Slot} {z : Int32} {rest : List Value} (hret : meth.sig.returnType = some .int) (hd : decode c.code pc = .ok (.ireturn, 1)) {fs : List Frame}
    (hl : ∀ (f : JFrame) (acts : List Action), f.method = m → f.locked = none → f.entered = [] → (doReturn e (T.setTop f) acts (some (.int z))).1 = T.setFrames fs) : Steps p.tables e below (T.setTop (mkF m pc Ls (.int z :: rest))) (T.setFrames fs) := by
  have hm' : T.vm.method? m = some meth := X.method'
  have hn : narrow .int (.int z) = .int z := rfl
  show Steps p.tables e below (T.setTop { method := m, pc := pc, locals := Ls, stack := _ :: rest, locked := none }) _
  jvm_step X.here [X.here.top, hx, hd, hm', hret, hn]
  first | (intro acts; rw [hl _ acts rfl rfl rfl]) | rw [hl _ _ rfl rfl rfl]
  exact Steps.refl _
end New
end Jvm.RoadKit
namespace Jvm.Pilot.@@N@@
open Jvm Jvm.ClassFile Sem Op Lib Jvm.Free Jvm.Stand Jvm.LawKit Jvm.RoadKit Bundle Jvm.Pilot.@@N@@.Jvm.D
theorem d1_0 : decode method_3_code 0 = .ok (.lload_n 0, 1) := by decide +kernel
theorem d1_1 : decode method_3_code 1 = .ok (.lconst 0, 1) := by decide +kernel
theorem d1_2 : decode method_3_code 2 = .ok (.lcmp, 1) := by decide +kernel
theorem d1_3 : decode method_3_code 3 = .ok (.ifCond .lt 9, 3) := by decide +kernel
theorem d1_6 : decode method_3_code 6 = .ok (.lload_n 0, 1) := by decide +kernel
theorem d1_7 : decode method_3_code 7 = .ok (.lload_n 2, 1) := by decide +kernel
theorem d1_8 : decode method_3_code 8 = .ok (.ldiv, 1) := by decide +kernel
theorem d1_9 : decode method_3_code 9 = .ok (.goto 12, 3) := by decide +kernel
theorem d1_12 : decode method_3_code 12 = .ok (.lload_n 0, 1) := by decide +kernel
theorem d1_13 : decode method_3_code 13 = .ok (.lneg, 1) := by decide +kernel
theorem d1_14 : decode method_3_code 14 = .ok (.lload_n 2, 1) := by decide +kernel
theorem d1_15 : decode method_3_code 15 = .ok (.ladd, 1) := by decide +kernel
theorem d1_16 : decode method_3_code 16 = .ok (.lconst 1, 1) := by decide +kernel
theorem d1_17 : decode method_3_code 17 = .ok (.lsub, 1) := by decide +kernel
theorem d1_18 : decode method_3_code 18 = .ok (.lload_n 2, 1) := by decide +kernel
theorem d1_19 : decode method_3_code 19 = .ok (.ldiv, 1) := by decide +kernel
theorem d1_20 : decode method_3_code 20 = .ok (.lneg, 1) := by decide +kernel
theorem d1_21 : decode method_3_code 21 = .ok (.lreturn, 1) := by decide +kernel
theorem d2_0 : decode prog_37_method_4_code 0 = .ok (.iload_n 0, 1) := by decide +kernel
theorem d2_1 : decode prog_37_method_4_code 1 = .ok (.ldc 75, 2) := by decide +kernel
theorem d2_3 : decode prog_37_method_4_code 3 = .ok (.imul, 1) := by decide +kernel
theorem d2_4 : decode prog_37_method_4_code 4 = .ok (.iload_n 1, 1) := by decide +kernel
theorem d2_5 : decode prog_37_method_4_code 5 = .ok (.ifCond .eq 8, 3) := by decide +kernel
theorem d2_8 : decode prog_37_method_4_code 8 = .ok (.ldc 76, 2) := by decide +kernel
theorem d2_10 : decode prog_37_method_4_code 10 = .ok (.goto 4, 3) := by decide +kernel
theorem d2_13 : decode prog_37_method_4_code 13 = .ok (.iconst 0, 1) := by decide +kernel
theorem d2_14 : decode prog_37_method_4_code 14 = .ok (.iadd, 1) := by decide +kernel
theorem d2_15 : decode prog_37_method_4_code 15 = .ok (.bipush 22, 2) := by decide +kernel
theorem d2_17 : decode prog_37_method_4_code 17 = .ok (.ishr, 1) := by decide +kernel
theorem d2_18 : decode prog_37_method_4_code 18 = .ok (.ireturn, 1) := by decide +kernel
theorem pn_0 : plainName "com/example/terseform/terseform/codec/ShortestDecimalFloorLog10OfWidthPinLaw" = true := by first | (simp [plainName, overriddenIn]; done) | decide +kernel
theorem pn_1 : plainName "com/example/terseform/terseform/codec/ShortestDecimal" = true := by first | (simp [plainName, overriddenIn]; done) | decide +kernel
theorem pd_0 : parseMethodDescriptor "(JJ)J" = some ⟨[.long, .long], some .long⟩ := by decide +kernel
theorem pd_1 : parseMethodDescriptor "(IZ)I" = some ⟨[.int, .boolean], some .int⟩ := by decide +kernel
theorem own_fin {c : Int32} {n : Nat} (h0 : 0 ≤ c.toInt) (h1 : c.toInt < n) : ∃ k, k < n ∧ c = k.toInt32 := by
  have hn : ¬ c < 0 := by
    rw [Int32.lt_iff_toInt_lt]
    show ¬ c.toInt < 0
    omega
  exact ⟨c.toNatClampNeg, by have := nat_of hn; omega, (back32 hn).1.symm⟩
theorem own_modfin (x y : Int32) (n : Nat) (hy : y.toInt = n) (hn : 0 < n) : ∃ k, k < n ∧ (x &&& (2147483647 : Int32)) % y = k.toInt32 := by
  have h1 := c_mask x 2147483647 31 (by decide) (by decide)
  have h2 : 0 ≤ (x &&& (2147483647 : Int32)).toInt := by rw [h1]; omega
  have h3 := (c_iremV (x &&& (2147483647 : Int32)) y).1 h2 (by omega)
  exact own_fin h3.1 (by omega)
theorem own_nar1 {x : Int32} (h : x = 1) : nar .boolean x = 1 := by subst h; rfl
theorem own_n0 : nar .boolean (0 : Int32) = 0 := rfl
theorem own_n1 : nar .boolean (1 : Int32) = 1 := rfl
def own_j1_3_0 (j1 : Int64) (j2 : Int64) : Int64 := (if j1 < (0 : Int64) then (-((((-j1) + j2) - (1 : Int64)) / j2)) else (j1 / j2))
def Q1 (Z : State) (j1 : Int64) (j2 : Int64) (h0 : Heap) (n0 : Nat) (v : Option Value) (h : Heap) (L : List Loc) : Prop := v = some (.long (own_j1_3_0 j1 j2)) ∧ Fr n0 L ∧ h = h0
theorem ef_1 (m : MethodId) (x0 : Int64) (x1 : Int64) : entryFrame m #[(.long x0), (.long x1)] 4 = mkF m 0 #[.val (.long x0), .second, .val (.long x1), .second] [] := by first | (simp [entryFrame, mkF, argsToLocals, Value.category]; done) | rfl
set_option maxRecDepth 65536 in
set_option maxHeartbeats 40000000 in
theorem rm1 (l : Launch) (Z : State) (a0 : Array Value) (hw : ∀ d ∈ tables_1, d.before a0 Z = true) (ws : List Jvm.Cond) (j1 : Int64) (j2 : Int64) (h0 : Heap) (n0 : Nat) (Z0 : n0 ≤ h0.size) (hnz19 : ¬ (j2 = (0 : Int64))) :
    MetFree l (⟨"com/example/terseform/terseform/codec/ShortestDecimalFloorLog10OfWidthPinLaw", "floorDiv", "(JJ)J"⟩ : MethodName) (head1 (Jvm.Cond.code (⟨"com/example/terseform/terseform/codec/ShortestDecimalFloorLog10OfWidthPinLaw", "floorDiv", "(JJ)J"⟩ : MethodName) method_3_code 4 (some .long) :: ws) ({ frames := 0, cells := 0, slots := 0, locals := 0 } : Room)) (fun a U => a = #[(.long j1), (.long j2)] ∧ Z.Warmed39 U.vm ∧ U.heap = h0) (fun _ _ _ _ _ => True) (fun _ U o U' => ∃ v L, o = .returned v ∧ Q1 Z j1 j2 h0 n0 v U'.heap L ∧ FrameEnd U o U' L ({ frames := 0, cells := 0, slots := 0, locals := 0 } : Room).cells ({ frames := 0, cells := 0, slots := 0, locals := 0 } : Room).slots) := by
  refine MetFree.of_bodySF (plainFor_of_name pn_0) hisR ?_
  intro p e s m args below meth c s₁ Bd hml0 hP hK
  obtain ⟨rfl, hZ, hh⟩ := hP
  have hx := Bd.exec
  have hby := Bd.bytes
  have hml : c.maxLocals = 4 := hml0
  have hown : s.vm.findClass "com/example/terseform/terseform/codec/ShortestDecimalFloorLog10OfWidthPinLaw" = some m.cls := findClass_of_methodNamed Bd.named
  have hnm := (name_of_methodNamed Bd.named Bd.method).1
  have X0 : Stand p l e ({ frames := 0, cells := 0, slots := 0, locals := 0 } : Room) s m #[(.long j1), (.long j2)] below meth c s₁ [] 0 0 := Stand.of_body Bd
  have e0 : s₁.heap = h0 := by rw [← hh, Bd.state]; rfl
  have N0 := Fr.nil n0
  have pre0 : ∀ t, Steps p.tables e below (s₁.setTop (mkF m 0 #[.val (.long j1), .second, .val (.long j2), .second] [])) t → Steps p.tables e below (s₁.setTop (entryFrame m #[(.long j1), (.long j2)] 4)) t := fun t k => castTop (ef_1 m j1 j2) k
  have pre1 : ∀ t, Steps p.tables e below (s₁.setTop (mkF m 3 #[.val (.long j1), .second, .val (.long j2), .second] [(.int (lcmpW j1 (0 : Int64)))])) t → Steps p.tables e below (s₁.setTop (entryFrame m #[(.long j1), (.long j2)] 4)) t := by
    intro t k
    refine pre0 _ ?_
    show Steps p.tables e below (s₁.setTop (mkF m 0 #[.val (.long j1), .second, .val (.long j2), .second] [])) _
    refine XS.lloadN X0.here hx rfl (hb hby d1_0) rfl ?_
    show Steps p.tables e below (s₁.setTop (mkF m 1 #[.val (.long j1), .second, .val (.long j2), .second] [(.long j1)])) _
    refine XS.lconst X0.here hx rfl (hb hby d1_1) ?_
    show Steps p.tables e below (s₁.setTop (mkF m 2 #[.val (.long j1), .second, .val (.long j2), .second] [(.long (0 : Int64)), (.long j1)])) _
    refine XS.lcmp X0.here hx rfl (hb hby d1_2) rfl ?_
    exact k
  have pre5 : ∀ t, Steps p.tables e below (s₁.setTop (mkF m 21 #[.val (.long j1), .second, .val (.long j2), .second] [(.long (own_j1_3_0 j1 j2))])) t → Steps p.tables e below (s₁.setTop (entryFrame m #[(.long j1), (.long j2)] 4)) t := by
    by_cases hc3_2 : j1 < (0 : Int64)
    · have pre3 : ∀ t, Steps p.tables e below (s₁.setTop (mkF m 21 #[.val (.long j1), .second, .val (.long j2), .second] [(.long (-((((-j1) + j2) - (1 : Int64)) / j2)))])) t → Steps p.tables e below (s₁.setTop (entryFrame m #[(.long j1), (.long j2)] 4)) t := by
        intro t k
        refine pre1 _ ?_
        show Steps p.tables e below (s₁.setTop (mkF m 3 #[.val (.long j1), .second, .val (.long j2), .second] [(.int (lcmpW j1 (0 : Int64)))])) _
        refine XS.ifYes X0.here hx rfl (pc0 := 3) (pc' := 12) rfl (hb hby d1_3) rfl ((if0 _ _).trans (tlt ((lw_lt j1 (0 : Int64)).mpr hc3_2)).1) (by decide) (by decide) ?_
        show Steps p.tables e below (s₁.setTop (mkF m 12 #[.val (.long j1), .second, .val (.long j2), .second] [])) _
        refine XS.lloadN X0.here hx rfl (hb hby d1_12) rfl ?_
        show Steps p.tables e below (s₁.setTop (mkF m 13 #[.val (.long j1), .second, .val (.long j2), .second] [(.long j1)])) _
        refine XS.lneg X0.here hx rfl (hb hby d1_13) rfl ?_
        show Steps p.tables e below (s₁.setTop (mkF m 14 #[.val (.long j1), .second, .val (.long j2), .second] [(.long (-j1))])) _
        refine XS.lloadN X0.here hx rfl (hb hby d1_14) rfl ?_
        show Steps p.tables e below (s₁.setTop (mkF m 15 #[.val (.long j1), .second, .val (.long j2), .second] [(.long j2), (.long (-j1))])) _
        refine XS.ladd X0.here hx rfl (hb hby d1_15) rfl ?_
        show Steps p.tables e below (s₁.setTop (mkF m 16 #[.val (.long j1), .second, .val (.long j2), .second] [(.long ((-j1) + j2))])) _
        refine XS.lconst X0.here hx rfl (hb hby d1_16) ?_
        show Steps p.tables e below (s₁.setTop (mkF m 17 #[.val (.long j1), .second, .val (.long j2), .second] [(.long (1 : Int64)), (.long ((-j1) + j2))])) _
        refine XS.lsub X0.here hx rfl (hb hby d1_17) rfl ?_
        show Steps p.tables e below (s₁.setTop (mkF m 18 #[.val (.long j1), .second, .val (.long j2), .second] [(.long (((-j1) + j2) - (1 : Int64)))])) _
        refine XS.lloadN X0.here hx rfl (hb hby d1_18) rfl ?_
        show Steps p.tables e below (s₁.setTop (mkF m 19 #[.val (.long j1), .second, .val (.long j2), .second] [(.long j2), (.long (((-j1) + j2) - (1 : Int64)))])) _
        refine XS.ldiv X0.here hx rfl (hb hby d1_19) rfl hnz19 ?_
        show Steps p.tables e below (s₁.setTop (mkF m 20 #[.val (.long j1), .second, .val (.long j2), .second] [(.long ((((-j1) + j2) - (1 : Int64)) / j2))])) _
        refine XS.lneg X0.here hx rfl (hb hby d1_20) rfl ?_
        exact k
      exact fun t k => pre3 t (by rw [show (own_j1_3_0 j1 j2) = (-((((-j1) + j2) - (1 : Int64)) / j2)) from (if_pos hc3_2)] at k; exact k)
    · have pre4 : ∀ t, Steps p.tables e below (s₁.setTop (mkF m 21 #[.val (.long j1), .second, .val (.long j2), .second] [(.long (j1 / j2))])) t → Steps p.tables e below (s₁.setTop (entryFrame m #[(.long j1), (.long j2)] 4)) t := by
        intro t k
        refine pre1 _ ?_
        show Steps p.tables e below (s₁.setTop (mkF m 3 #[.val (.long j1), .second, .val (.long j2), .second] [(.int (lcmpW j1 (0 : Int64)))])) _
        refine XS.ifNo X0.here hx rfl (hb hby d1_3) rfl ((if0 _ _).trans (flt (mt (lw_lt j1 (0 : Int64)).mp hc3_2)).1) ?_
        show Steps p.tables e below (s₁.setTop (mkF m 6 #[.val (.long j1), .second, .val (.long j2), .second] [])) _
        refine XS.lloadN X0.here hx rfl (hb hby d1_6) rfl ?_
        show Steps p.tables e below (s₁.setTop (mkF m 7 #[.val (.long j1), .second, .val (.long j2), .second] [(.long j1)])) _
        refine XS.lloadN X0.here hx rfl (hb hby d1_7) rfl ?_
        show Steps p.tables e below (s₁.setTop (mkF m 8 #[.val (.long j1), .second, .val (.long j2), .second] [(.long j2), (.long j1)])) _
        refine XS.ldiv X0.here hx rfl (hb hby d1_8) rfl hnz19 ?_
        show Steps p.tables e below (s₁.setTop (mkF m 9 #[.val (.long j1), .second, .val (.long j2), .second] [(.long (j1 / j2))])) _
        refine XS.goto X0.here hx rfl (pc0 := 9) (pc' := 21) rfl (hb hby d1_9) (by decide) (by decide) ?_
        exact k
      exact fun t k => pre4 t (by rw [show (own_j1_3_0 j1 j2) = (j1 / j2) from (if_neg hc3_2)] at k; exact k)
  obtain ⟨fs, hr, hrun, hended, hW, hsame⟩ := X0.leave (v := some (.long (own_j1_3_0 j1 j2))) (fun h => by rw [Bd.returns] at h; cases h)
  refine ⟨_, _, pre5 _ ?_, hrun, hended, _, _, rfl, ?_, ⟨_, rfl⟩, hW, hsame.mono (by decide) (by decide)⟩
  · show Steps p.tables e below (s₁.setTop (mkF m 21 #[.val (.long j1), .second, .val (.long j2), .second] [(.long (own_j1_3_0 j1 j2))])) _
    jvm_step X0.here [X0.here.top, hx, (hb hby d1_21), X0.method', Bd.returns, narrow]
    first | (intro acts; rw [hr _ acts rfl rfl rfl]) | rw [hr _ _ rfl rfl rfl]
    exact Steps.refl _
  · show Q1 Z j1 j2 h0 n0 _ s₁.heap _
    rw [e0]
    exact ⟨rfl, N0, rfl⟩
def own_j2_5_0 (i2 : Int32) : Int32 := (if i2 = (0 : Int32) then (0 : Int32) else (-524032 : Int32))
def Q2 (Z : State) (i1 : Int32) (i2 : Int32) (h0 : Heap) (n0 : Nat) (v : Option Value) (h : Heap) (L : List Loc) : Prop := v = some (.int (((i1 * (1262611 : Int32)) + (own_j2_5_0 i2)) >>> ((22 : Int32) &&& 31))) ∧ Fr n0 L ∧ h = h0
theorem ef_2 (m : MethodId) (x0 : Int32) (x1 : Int32) : entryFrame m #[(.int x0), (.int x1)] 2 = mkF m 0 #[.val (.int x0), .val (.int x1)] [] := by first | (simp [entryFrame, mkF, argsToLocals, Value.category]; done) | rfl
set_option maxRecDepth 65536 in
set_option maxHeartbeats 40000000 in
theorem rm2 (l : Launch) (Z : State) (a0 : Array Value) (hw : ∀ d ∈ tables_1, d.before a0 Z = true) (ws : List Jvm.Cond) (i1 : Int32) (i2 : Int32) (h0 : Heap) (n0 : Nat) (Z0 : n0 ≤ h0.size) :
    MetFree l (⟨"com/example/terseform/terseform/codec/ShortestDecimal", "floorLog10OfWidth", "(IZ)I"⟩ : MethodName) (head1 (Jvm.Cond.code (⟨"com/example/terseform/terseform/codec/ShortestDecimal", "floorLog10OfWidth", "(IZ)I"⟩ : MethodName) prog_37_method_4_code 2 (some .int) :: ws) ({ frames := 0, cells := 0, slots := 0, locals := 0 } : Room)) (fun a U => a = #[(.int i1), (.int i2)] ∧ Z.Warmed39 U.vm ∧ U.heap = h0) (fun _ _ _ _ _ => True) (fun _ U o U' => ∃ v L, o = .returned v ∧ Q2 Z i1 i2 h0 n0 v U'.heap L ∧ FrameEnd U o U' L ({ frames := 0, cells := 0, slots := 0, locals := 0 } : Room).cells ({ frames := 0, cells := 0, slots := 0, locals := 0 } : Room).slots) := by
  refine MetFree.of_bodySF (plainFor_of_name pn_1) hisR ?_
  intro p e s m args below meth c s₁ Bd hml0 hP hK
  obtain ⟨rfl, hZ, hh⟩ := hP
  have hx := Bd.exec
  have hby := Bd.bytes
  have hml : c.maxLocals = 2 := hml0
  have hown : s.vm.findClass "com/example/terseform/terseform/codec/ShortestDecimal" = some m.cls := findClass_of_methodNamed Bd.named
  have hnm := (name_of_methodNamed Bd.named Bd.method).1
  have X0 : Stand p l e ({ frames := 0, cells := 0, slots := 0, locals := 0 } : Room) s m #[(.int i1), (.int i2)] below meth c s₁ [] 0 0 := Stand.of_body Bd
  have e0 : s₁.heap = h0 := by rw [← hh, Bd.state]; rfl
  have N0 := Fr.nil n0
  have pre0 : ∀ t, Steps p.tables e below (s₁.setTop (mkF m 0 #[.val (.int i1), .val (.int i2)] [])) t → Steps p.tables e below (s₁.setTop (entryFrame m #[(.int i1), (.int i2)] 2)) t := fun t k => castTop (ef_2 m i1 i2) k
  have pre1 : ∀ t, Steps p.tables e below (s₁.setTop (mkF m 5 #[.val (.int i1), .val (.int i2)] [(.int i2), (.int (i1 * (1262611 : Int32)))])) t → Steps p.tables e below (s₁.setTop (entryFrame m #[(.int i1), (.int i2)] 2)) t := by
    intro t k
    refine pre0 _ ?_
    show Steps p.tables e below (s₁.setTop (mkF m 0 #[.val (.int i1), .val (.int i2)] [])) _
    refine XS.iloadN X0.here hx rfl (hb hby d2_0) rfl ?_
    show Steps p.tables e below (s₁.setTop (mkF m 1 #[.val (.int i1), .val (.int i2)] [(.int i1)])) _
    refine X0.ldcInt hx hown (mvT hZ (hw _ (List.mem_of_getElem? (i := 12) rfl))) (g := (mkF m 1 #[.val (.int i1), .val (.int i2)] [(.int i1)])) rfl (hb hby d2_1) _ ?_
    show Steps p.tables e below (s₁.setTop (mkF m 3 #[.val (.int i1), .val (.int i2)] [(.int (1262611 : Int32)), (.int i1)])) _
    refine XS.imul X0.here hx rfl (hb hby d2_3) rfl ?_
    show Steps p.tables e below (s₁.setTop (mkF m 4 #[.val (.int i1), .val (.int i2)] [(.int (i1 * (1262611 : Int32)))])) _
    refine XS.iloadN X0.here hx rfl (hb hby d2_4) rfl ?_
    exact k
  have pre5 : ∀ t, Steps p.tables e below (s₁.setTop (mkF m 14 #[.val (.int i1), .val (.int i2)] [(.int (own_j2_5_0 i2)), (.int (i1 * (1262611 : Int32)))])) t → Steps p.tables e below (s₁.setTop (entryFrame m #[(.int i1), (.int i2)] 2)) t := by
    by_cases hc5_2 : i2 = (0 : Int32)
    · have pre3 : ∀ t, Steps p.tables e below (s₁.setTop (mkF m 14 #[.val (.int i1), .val (.int i2)] [(.int (0 : Int32)), (.int (i1 * (1262611 : Int32)))])) t → Steps p.tables e below (s₁.setTop (entryFrame m #[(.int i1), (.int i2)] 2)) t := by
        intro t k
        refine pre1 _ ?_
        show Steps p.tables e below (s₁.setTop (mkF m 5 #[.val (.int i1), .val (.int i2)] [(.int i2), (.int (i1 * (1262611 : Int32)))])) _
        refine XS.ifYes X0.here hx rfl (pc0 := 5) (pc' := 13) rfl (hb hby d2_5) rfl ((if0 _ _).trans (teq hc5_2).1) (by decide) (by decide) ?_
        show Steps p.tables e below (s₁.setTop (mkF m 13 #[.val (.int i1), .val (.int i2)] [(.int (i1 * (1262611 : Int32)))])) _
        refine XS.iconst X0.here hx rfl (hb hby d2_13) ?_
        exact k
      exact fun t k => pre3 t (by rw [show (own_j2_5_0 i2) = (0 : Int32) from (if_pos hc5_2)] at k; exact k)
    · have pre4 : ∀ t, Steps p.tables e below (s₁.setTop (mkF m 14 #[.val (.int i1), .val (.int i2)] [(.int (-524032 : Int32)), (.int (i1 * (1262611 : Int32)))])) t → Steps p.tables e below (s₁.setTop (entryFrame m #[(.int i1), (.int i2)] 2)) t := by
        intro t k
        refine pre1 _ ?_
        show Steps p.tables e below (s₁.setTop (mkF m 5 #[.val (.int i1), .val (.int i2)] [(.int i2), (.int (i1 * (1262611 : Int32)))])) _
        refine XS.ifNo X0.here hx rfl (hb hby d2_5) rfl ((if0 _ _).trans (feq hc5_2).1) ?_
        show Steps p.tables e below (s₁.setTop (mkF m 8 #[.val (.int i1), .val (.int i2)] [(.int (i1 * (1262611 : Int32)))])) _
        refine X0.ldcInt hx hown (mvT hZ (hw _ (List.mem_of_getElem? (i := 13) rfl))) (g := (mkF m 8 #[.val (.int i1), .val (.int i2)] [(.int (i1 * (1262611 : Int32)))])) rfl (hb hby d2_8) _ ?_
        show Steps p.tables e below (s₁.setTop (mkF m 10 #[.val (.int i1), .val (.int i2)] [(.int (-524032 : Int32)), (.int (i1 * (1262611 : Int32)))])) _
        refine XS.goto X0.here hx rfl (pc0 := 10) (pc' := 14) rfl (hb hby d2_10) (by decide) (by decide) ?_
        exact k
      exact fun t k => pre4 t (by rw [show (own_j2_5_0 i2) = (-524032 : Int32) from (if_neg hc5_2)] at k; exact k)
  have pre6 : ∀ t, Steps p.tables e below (s₁.setTop (mkF m 18 #[.val (.int i1), .val (.int i2)] [(.int (((i1 * (1262611 : Int32)) + (own_j2_5_0 i2)) >>> ((22 : Int32) &&& 31)))])) t → Steps p.tables e below (s₁.setTop (entryFrame m #[(.int i1), (.int i2)] 2)) t := by
    intro t k
    refine pre5 _ ?_
    show Steps p.tables e below (s₁.setTop (mkF m 14 #[.val (.int i1), .val (.int i2)] [(.int (own_j2_5_0 i2)), (.int (i1 * (1262611 : Int32)))])) _
    refine XS.iadd X0.here hx rfl (hb hby d2_14) rfl ?_
    show Steps p.tables e below (s₁.setTop (mkF m 15 #[.val (.int i1), .val (.int i2)] [(.int ((i1 * (1262611 : Int32)) + (own_j2_5_0 i2)))])) _
    refine XS.bipush X0.here hx rfl (hb hby d2_15) ?_
    show Steps p.tables e below (s₁.setTop (mkF m 17 #[.val (.int i1), .val (.int i2)] [(.int (22 : Int32)), (.int ((i1 * (1262611 : Int32)) + (own_j2_5_0 i2)))])) _
    refine XS.ishr X0.here hx rfl (hb hby d2_17) rfl ?_
    exact k
  obtain ⟨fs, hr, hrun, hended, hW, hsame⟩ := X0.leave (v := some (.int (((i1 * (1262611 : Int32)) + (own_j2_5_0 i2)) >>> ((22 : Int32) &&& 31)))) (fun h => by rw [Bd.returns] at h; cases h)
  refine ⟨_, _, pre6 _ ?_, hrun, hended, _, _, rfl, ?_, ⟨_, rfl⟩, hW, hsame.mono (by decide) (by decide)⟩
  · show Steps p.tables e below (s₁.setTop (mkF m 18 #[.val (.int i1), .val (.int i2)] [(.int (((i1 * (1262611 : Int32)) + (own_j2_5_0 i2)) >>> ((22 : Int32) &&& 31)))])) _
    exact retI X0 hx Bd.returns (hb hby d2_18) hr
  · show Q2 Z i1 i2 h0 n0 _ s₁.heap _
    rw [e0]
    exact ⟨rfl, N0, rfl⟩
def own_j0_16_0 (i2 : Int32) : Int32 := (if (i2 &&& (1 : Int32)) = (0 : Int32) then (0 : Int32) else (1 : Int32))
def own_j0_46_0 (i2 : Int32) : Int64 := (if (own_j0_16_0 i2) = (0 : Int32) then (0 : Int64) else (-124938736608300 : Int64))
def own_j0_76_0 (i1 : Int32) (i2 : Int32) : Int32 := (if ((((((-1074 : Int32) + ((i1 &&& (2147483647 : Int32)) % (2046 : Int32))) * (1262611 : Int32)) + (own_j2_5_0 (own_j0_16_0 i2))) >>> ((22 : Int32) &&& 31)).toInt64) = (own_j1_3_0 (((((-1074 : Int32) + ((i1 &&& (2147483647 : Int32)) % (2046 : Int32))).toInt64) * (301029995663981 : Int64)) + (own_j0_46_0 i2)) (1000000000000000 : Int64)) then (1 : Int32) else (0 : Int32))
def Q0 (Z : State) (i1 : Int32) (i2 : Int32) (h0 : Heap) (n0 : Nat) (v : Option Value) (h : Heap) (L : List Loc) : Prop := v = some (.int (nar .boolean (own_j0_76_0 i1 i2))) ∧ Fr n0 L
theorem ef_0 (m : MethodId) (x0 : Int32) (x1 : Int32) : entryFrame m #[(.int x0), (.int x1)] maxLocals = mkF m 0 #[.val (.int x0), .val (.int x1), .unset, .unset, .unset, .unset, .unset, .unset, .unset, .unset, .unset, .unset, .unset, .unset] [] := by first | (simp [entryFrame, mkF, argsToLocals, Value.category, maxLocals]; done) | rfl
set_option maxRecDepth 65536 in
set_option maxHeartbeats 40000000 in
theorem rm0 (l : Launch) (Z : State) (a0 : Array Value) (hw : ∀ d ∈ tables_1, d.before a0 Z = true) (ws : List Jvm.Cond) (i1 : Int32) (i2 : Int32) (h0 : Heap) (n0 : Nat) (Z0 : n0 ≤ h0.size) :
    MetFree l x (head1 (Jvm.Cond.code x code maxLocals ret :: ws) room_1) (fun a U => a = #[(.int i1), (.int i2)] ∧ Z.Warmed39 U.vm ∧ U.heap = h0) (fun _ _ _ _ _ => True) (fun _ U o U' => ∃ v L, o = .returned v ∧ Q0 Z i1 i2 h0 n0 v U'.heap L ∧ FrameEnd U o U' L room_1.cells room_1.slots) := by
  refine MetFree.of_bodySF (plainFor_of_name pn_0) hisR ?_
  intro p e s m args below meth c s₁ Bd hml0 hP hK
  obtain ⟨rfl, hZ, hh⟩ := hP
  have hx := Bd.exec
  have hby := Bd.bytes
  have hml : c.maxLocals = 14 := hml0
  have hown : s.vm.findClass "com/example/terseform/terseform/codec/ShortestDecimalFloorLog10OfWidthPinLaw" = some m.cls := findClass_of_methodNamed Bd.named
  have hnm := (name_of_methodNamed Bd.named Bd.method).1
  have X0 : Stand p l e room_1 s m #[(.int i1), (.int i2)] below meth c s₁ [] 0 0 := Stand.of_body Bd
  have e0 : s₁.heap = h0 := by rw [← hh, Bd.state]; rfl
  have N0 := Fr.nil n0
  have pre0 : ∀ t, Steps p.tables e below (s₁.setTop (mkF m 0 #[.val (.int i1), .val (.int i2), .unset, .unset, .unset, .unset, .unset, .unset, .unset, .unset, .unset, .unset, .unset, .unset] [])) t → Steps p.tables e below (s₁.setTop (entryFrame m #[(.int i1), (.int i2)] maxLocals)) t := fun t k => castTop (ef_0 m i1 i2) k
  have pre1 : ∀ t, Steps p.tables e below (s₁.setTop (mkF m 16 #[.val (.int i1), .val (.int i2), .val (.int ((-1074 : Int32) + ((i1 &&& (2147483647 : Int32)) % (2046 : Int32)))), .unset, .unset, .unset, .unset, .unset, .unset, .unset, .unset, .unset, .unset, .unset] [(.int (i2 &&& (1 : Int32)))])) t → Steps p.tables e below (s₁.setTop (entryFrame m #[(.int i1), (.int i2)] maxLocals)) t := by
    intro t k
    refine pre0 _ ?_
    show Steps p.tables e below (s₁.setTop (mkF m 0 #[.val (.int i1), .val (.int i2), .unset, .unset, .unset, .unset, .unset, .unset, .unset, .unset, .unset, .unset, .unset, .unset] [])) _
    refine XS.sipush X0.here hx rfl (hb hby at_0) ?_
    show Steps p.tables e below (s₁.setTop (mkF m 3 #[.val (.int i1), .val (.int i2), .unset, .unset, .unset, .unset, .unset, .unset, .unset, .unset, .unset, .unset, .unset, .unset] [(.int (-1074 : Int32))])) _
    refine XS.iloadN X0.here hx rfl (hb hby at_3) rfl ?_
    show Steps p.tables e below (s₁.setTop (mkF m 4 #[.val (.int i1), .val (.int i2), .unset, .unset, .unset, .unset, .unset, .unset, .unset, .unset, .unset, .unset, .unset, .unset] [(.int i1), (.int (-1074 : Int32))])) _
    refine X0.ldcInt hx hown (mvT hZ (hw _ (List.mem_of_getElem? (i := 0) rfl))) (g := (mkF m 4 #[.val (.int i1), .val (.int i2), .unset, .unset, .unset, .unset, .unset, .unset, .unset, .unset, .unset, .unset, .unset, .unset] [(.int i1), (.int (-1074 : Int32))])) rfl (hb hby at_4) _ ?_
    show Steps p.tables e below (s₁.setTop (mkF m 6 #[.val (.int i1), .val (.int i2), .unset, .unset, .unset, .unset, .unset, .unset, .unset, .unset, .unset, .unset, .unset, .unset] [(.int (2147483647 : Int32)), (.int i1), (.int (-1074 : Int32))])) _
    refine XS.iand X0.here hx rfl (hb hby at_6) rfl ?_
    show Steps p.tables e below (s₁.setTop (mkF m 7 #[.val (.int i1), .val (.int i2), .unset, .unset, .unset, .unset, .unset, .unset, .unset, .unset, .unset, .unset, .unset, .unset] [(.int (i1 &&& (2147483647 : Int32))), (.int (-1074 : Int32))])) _
    refine XS.sipush X0.here hx rfl (hb hby at_7) ?_
    show Steps p.tables e below (s₁.setTop (mkF m 10 #[.val (.int i1), .val (.int i2), .unset, .unset, .unset, .unset, .unset, .unset, .unset, .unset, .unset, .unset, .unset, .unset] [(.int (2046 : Int32)), (.int (i1 &&& (2147483647 : Int32))), (.int (-1074 : Int32))])) _
    refine iremM X0 hx rfl (hb hby at_10) rfl (by decide) ?_
    show Steps p.tables e below (s₁.setTop (mkF m 11 #[.val (.int i1), .val (.int i2), .unset, .unset, .unset, .unset, .unset, .unset, .unset, .unset, .unset, .unset, .unset, .unset] [(.int ((i1 &&& (2147483647 : Int32)) % (2046 : Int32))), (.int (-1074 : Int32))])) _
    refine XS.iadd X0.here hx rfl (hb hby at_11) rfl ?_
    show Steps p.tables e below (s₁.setTop (mkF m 12 #[.val (.int i1), .val (.int i2), .unset, .unset, .unset, .unset, .unset, .unset, .unset, .unset, .unset, .unset, .unset, .unset] [(.int ((-1074 : Int32) + ((i1 &&& (2147483647 : Int32)) % (2046 : Int32))))])) _
    refine XS.istoreN X0.here hx rfl (hb hby at_12) rfl (l' := #[.val (.int i1), .val (.int i2), .val (.int ((-1074 : Int32) + ((i1 &&& (2147483647 : Int32)) % (2046 : Int32)))), .unset, .unset, .unset, .unset, .unset, .unset, .unset, .unset, .unset, .unset, .unset]) rfl ?_
    show Steps p.tables e below (s₁.setTop (mkF m 13 #[.val (.int i1), .val (.int i2), .val (.int ((-1074 : Int32) + ((i1 &&& (2147483647 : Int32)) % (2046 : Int32)))), .unset, .unset, .unset, .unset, .unset, .unset, .unset, .unset, .unset, .unset, .unset] [])) _
    refine XS.iloadN X0.here hx rfl (hb hby at_13) rfl ?_
    show Steps p.tables e below (s₁.setTop (mkF m 14 #[.val (.int i1), .val (.int i2), .val (.int ((-1074 : Int32) + ((i1 &&& (2147483647 : Int32)) % (2046 : Int32)))), .unset, .unset, .unset, .unset, .unset, .unset, .unset, .unset, .unset, .unset, .unset] [(.int i2)])) _
    refine XS.iconst X0.here hx rfl (hb hby at_14) ?_
    show Steps p.tables e below (s₁.setTop (mkF m 15 #[.val (.int i1), .val (.int i2), .val (.int ((-1074 : Int32) + ((i1 &&& (2147483647 : Int32)) % (2046 : Int32)))), .unset, .unset, .unset, .unset, .unset, .unset, .unset, .unset, .unset, .unset, .unset] [(.int (1 : Int32)), (.int i2)])) _
    refine XS.iand X0.here hx rfl (hb hby at_15) rfl ?_
    exact k
  have pre5 : ∀ t, Steps p.tables e below (s₁.setTop (mkF m 24 #[.val (.int i1), .val (.int i2), .val (.int ((-1074 : Int32) + ((i1 &&& (2147483647 : Int32)) % (2046 : Int32)))), .unset, .unset, .unset, .unset, .unset, .unset, .unset, .unset, .unset, .unset, .unset] [(.int (own_j0_16_0 i2))])) t → Steps p.tables e below (s₁.setTop (entryFrame m #[(.int i1), (.int i2)] maxLocals)) t := by
    by_cases hc16_2 : (i2 &&& (1 : Int32)) = (0 : Int32)
    · have pre3 : ∀ t, Steps p.tables e below (s₁.setTop (mkF m 24 #[.val (.int i1), .val (.int i2), .val (.int ((-1074 : Int32) + ((i1 &&& (2147483647 : Int32)) % (2046 : Int32)))), .unset, .unset, .unset, .unset, .unset, .unset, .unset, .unset, .unset, .unset, .unset] [(.int (0 : Int32))])) t → Steps p.tables e below (s₁.setTop (entryFrame m #[(.int i1), (.int i2)] maxLocals)) t := by
        intro t k
        refine pre1 _ ?_
        show Steps p.tables e below (s₁.setTop (mkF m 16 #[.val (.int i1), .val (.int i2), .val (.int ((-1074 : Int32) + ((i1 &&& (2147483647 : Int32)) % (2046 : Int32)))), .unset, .unset, .unset, .unset, .unset, .unset, .unset, .unset, .unset, .unset, .unset] [(.int (i2 &&& (1 : Int32)))])) _
        refine XS.ifYes X0.here hx rfl (pc0 := 16) (pc' := 23) rfl (hb hby at_16) rfl ((if0 _ _).trans (teq hc16_2).1) (by decide) (by decide) ?_
        show Steps p.tables e below (s₁.setTop (mkF m 23 #[.val (.int i1), .val (.int i2), .val (.int ((-1074 : Int32) + ((i1 &&& (2147483647 : Int32)) % (2046 : Int32)))), .unset, .unset, .unset, .unset, .unset, .unset, .unset, .unset, .unset, .unset, .unset] [])) _
        refine XS.iconst X0.here hx rfl (hb hby at_23) ?_
        exact k
      exact fun t k => pre3 t (by rw [show (own_j0_16_0 i2) = (0 : Int32) from (if_pos hc16_2)] at k; exact k)
    · have pre4 : ∀ t, Steps p.tables e below (s₁.setTop (mkF m 24 #[.val (.int i1), .val (.int i2), .val (.int ((-1074 : Int32) + ((i1 &&& (2147483647 : Int32)) % (2046 : Int32)))), .unset, .unset, .unset, .unset, .unset, .unset, .unset, .unset, .unset, .unset, .unset] [(.int (1 : Int32))])) t → Steps p.tables e below (s₁.setTop (entryFrame m #[(.int i1), (.int i2)] maxLocals)) t := by
        intro t k
        refine pre1 _ ?_
        show Steps p.tables e below (s₁.setTop (mkF m 16 #[.val (.int i1), .val (.int i2), .val (.int ((-1074 : Int32) + ((i1 &&& (2147483647 : Int32)) % (2046 : Int32)))), .unset, .unset, .unset, .unset, .unset, .unset, .unset, .unset, .unset, .unset, .unset] [(.int (i2 &&& (1 : Int32)))])) _
        refine XS.ifNo X0.here hx rfl (hb hby at_16) rfl ((if0 _ _).trans (feq hc16_2).1) ?_
        show Steps p.tables e below (s₁.setTop (mkF m 19 #[.val (.int i1), .val (.int i2), .val (.int ((-1074 : Int32) + ((i1 &&& (2147483647 : Int32)) % (2046 : Int32)))), .unset, .unset, .unset, .unset, .unset, .unset, .unset, .unset, .unset, .unset, .unset] [])) _
        refine XS.iconst X0.here hx rfl (hb hby at_19) ?_
        show Steps p.tables e below (s₁.setTop (mkF m 20 #[.val (.int i1), .val (.int i2), .val (.int ((-1074 : Int32) + ((i1 &&& (2147483647 : Int32)) % (2046 : Int32)))), .unset, .unset, .unset, .unset, .unset, .unset, .unset, .unset, .unset, .unset, .unset] [(.int (1 : Int32))])) _
        refine XS.goto X0.here hx rfl (pc0 := 20) (pc' := 24) rfl (hb hby at_20) (by decide) (by decide) ?_
        exact k
      exact fun t k => pre4 t (by rw [show (own_j0_16_0 i2) = (1 : Int32) from (if_neg hc16_2)] at k; exact k)
  have pre6 : ∀ t, Steps p.tables e below (s₁.setTop (mkF m 46 #[.val (.int i1), .val (.int i2), .val (.int ((-1074 : Int32) + ((i1 &&& (2147483647 : Int32)) % (2046 : Int32)))), .val (.int (own_j0_16_0 i2)), .val (.long (1000000000000000 : Int64)), .second, .val (.long (301029995663981 : Int64)), .second, .val (.long (-124938736608300 : Int64)), .second, .unset, .unset, .unset, .unset] [(.int (own_j0_16_0 i2)), (.long ((((-1074 : Int32) + ((i1 &&& (2147483647 : Int32)) % (2046 : Int32))).toInt64) * (301029995663981 : Int64)))])) t → Steps p.tables e below (s₁.setTop (entryFrame m #[(.int i1), (.int i2)] maxLocals)) t := by
    intro t k
    refine pre5 _ ?_
    show Steps p.tables e below (s₁.setTop (mkF m 24 #[.val (.int i1), .val (.int i2), .val (.int ((-1074 : Int32) + ((i1 &&& (2147483647 : Int32)) % (2046 : Int32)))), .unset, .unset, .unset, .unset, .unset, .unset, .unset, .unset, .unset, .unset, .unset] [(.int (own_j0_16_0 i2))])) _
    refine XS.istoreN X0.here hx rfl (hb hby at_24) rfl (l' := #[.val (.int i1), .val (.int i2), .val (.int ((-1074 : Int32) + ((i1 &&& (2147483647 : Int32)) % (2046 : Int32)))), .val (.int (own_j0_16_0 i2)), .unset, .unset, .unset, .unset, .unset, .unset, .unset, .unset, .unset, .unset]) rfl ?_
    show Steps p.tables e below (s₁.setTop (mkF m 25 #[.val (.int i1), .val (.int i2), .val (.int ((-1074 : Int32) + ((i1 &&& (2147483647 : Int32)) % (2046 : Int32)))), .val (.int (own_j0_16_0 i2)), .unset, .unset, .unset, .unset, .unset, .unset, .unset, .unset, .unset, .unset] [])) _
    refine X0.ldc2Long hx hown (mvT hZ (hw _ (List.mem_of_getElem? (i := 1) rfl))) (g := (mkF m 25 #[.val (.int i1), .val (.int i2), .val (.int ((-1074 : Int32) + ((i1 &&& (2147483647 : Int32)) % (2046 : Int32)))), .val (.int (own_j0_16_0 i2)), .unset, .unset, .unset, .unset, .unset, .unset, .unset, .unset, .unset, .unset] [])) rfl (hb hby at_25) _ ?_
    show Steps p.tables e below (s₁.setTop (mkF m 28 #[.val (.int i1), .val (.int i2), .val (.int ((-1074 : Int32) + ((i1 &&& (2147483647 : Int32)) % (2046 : Int32)))), .val (.int (own_j0_16_0 i2)), .unset, .unset, .unset, .unset, .unset, .unset, .unset, .unset, .unset, .unset] [(.long (1000000000000000 : Int64))])) _
    refine XS.lstore X0.here hx rfl (hb hby at_28) rfl (l' := #[.val (.int i1), .val (.int i2), .val (.int ((-1074 : Int32) + ((i1 &&& (2147483647 : Int32)) % (2046 : Int32)))), .val (.int (own_j0_16_0 i2)), .val (.long (1000000000000000 : Int64)), .second, .unset, .unset, .unset, .unset, .unset, .unset, .unset, .unset]) rfl ?_
    show Steps p.tables e below (s₁.setTop (mkF m 30 #[.val (.int i1), .val (.int i2), .val (.int ((-1074 : Int32) + ((i1 &&& (2147483647 : Int32)) % (2046 : Int32)))), .val (.int (own_j0_16_0 i2)), .val (.long (1000000000000000 : Int64)), .second, .unset, .unset, .unset, .unset, .unset, .unset, .unset, .unset] [])) _
    refine X0.ldc2Long hx hown (mvT hZ (hw _ (List.mem_of_getElem? (i := 2) rfl))) (g := (mkF m 30 #[.val (.int i1), .val (.int i2), .val (.int ((-1074 : Int32) + ((i1 &&& (2147483647 : Int32)) % (2046 : Int32)))), .val (.int (own_j0_16_0 i2)), .val (.long (1000000000000000 : Int64)), .second, .unset, .unset, .unset, .unset, .unset, .unset, .unset, .unset] [])) rfl (hb hby at_30) _ ?_
    show Steps p.tables e below (s₁.setTop (mkF m 33 #[.val (.int i1), .val (.int i2), .val (.int ((-1074 : Int32) + ((i1 &&& (2147483647 : Int32)) % (2046 : Int32)))), .val (.int (own_j0_16_0 i2)), .val (.long (1000000000000000 : Int64)), .second, .unset, .unset, .unset, .unset, .unset, .unset, .unset, .unset] [(.long (301029995663981 : Int64))])) _
    refine XS.lstore X0.here hx rfl (hb hby at_33) rfl (l' := #[.val (.int i1), .val (.int i2), .val (.int ((-1074 : Int32) + ((i1 &&& (2147483647 : Int32)) % (2046 : Int32)))), .val (.int (own_j0_16_0 i2)), .val (.long (1000000000000000 : Int64)), .second, .val (.long (301029995663981 : Int64)), .second, .unset, .unset, .unset, .unset, .unset, .unset]) rfl ?_
    show Steps p.tables e below (s₁.setTop (mkF m 35 #[.val (.int i1), .val (.int i2), .val (.int ((-1074 : Int32) + ((i1 &&& (2147483647 : Int32)) % (2046 : Int32)))), .val (.int (own_j0_16_0 i2)), .val (.long (1000000000000000 : Int64)), .second, .val (.long (301029995663981 : Int64)), .second, .unset, .unset, .unset, .unset, .unset, .unset] [])) _
    refine X0.ldc2Long hx hown (mvT hZ (hw _ (List.mem_of_getElem? (i := 3) rfl))) (g := (mkF m 35 #[.val (.int i1), .val (.int i2), .val (.int ((-1074 : Int32) + ((i1 &&& (2147483647 : Int32)) % (2046 : Int32)))), .val (.int (own_j0_16_0 i2)), .val (.long (1000000000000000 : Int64)), .second, .val (.long (301029995663981 : Int64)), .second, .unset, .unset, .unset, .unset, .unset, .unset] [])) rfl (hb hby at_35) _ ?_
    show Steps p.tables e below (s₁.setTop (mkF m 38 #[.val (.int i1), .val (.int i2), .val (.int ((-1074 : Int32) + ((i1 &&& (2147483647 : Int32)) % (2046 : Int32)))), .val (.int (own_j0_16_0 i2)), .val (.long (1000000000000000 : Int64)), .second, .val (.long (301029995663981 : Int64)), .second, .unset, .unset, .unset, .unset, .unset, .unset] [(.long (-124938736608300 : Int64))])) _
    refine XS.lstore X0.here hx rfl (hb hby at_38) rfl (l' := #[.val (.int i1), .val (.int i2), .val (.int ((-1074 : Int32) + ((i1 &&& (2147483647 : Int32)) % (2046 : Int32)))), .val (.int (own_j0_16_0 i2)), .val (.long (1000000000000000 : Int64)), .second, .val (.long (301029995663981 : Int64)), .second, .val (.long (-124938736608300 : Int64)), .second, .unset, .unset, .unset, .unset]) rfl ?_
    show Steps p.tables e below (s₁.setTop (mkF m 40 #[.val (.int i1), .val (.int i2), .val (.int ((-1074 : Int32) + ((i1 &&& (2147483647 : Int32)) % (2046 : Int32)))), .val (.int (own_j0_16_0 i2)), .val (.long (1000000000000000 : Int64)), .second, .val (.long (301029995663981 : Int64)), .second, .val (.long (-124938736608300 : Int64)), .second, .unset, .unset, .unset, .unset] [])) _
    refine XS.iloadN X0.here hx rfl (hb hby at_40) rfl ?_
    show Steps p.tables e below (s₁.setTop (mkF m 41 #[.val (.int i1), .val (.int i2), .val (.int ((-1074 : Int32) + ((i1 &&& (2147483647 : Int32)) % (2046 : Int32)))), .val (.int (own_j0_16_0 i2)), .val (.long (1000000000000000 : Int64)), .second, .val (.long (301029995663981 : Int64)), .second, .val (.long (-124938736608300 : Int64)), .second, .unset, .unset, .unset, .unset] [(.int ((-1074 : Int32) + ((i1 &&& (2147483647 : Int32)) % (2046 : Int32))))])) _
    refine XS.i2l X0.here hx rfl (hb hby at_41) rfl ?_
    show Steps p.tables e below (s₁.setTop (mkF m 42 #[.val (.int i1), .val (.int i2), .val (.int ((-1074 : Int32) + ((i1 &&& (2147483647 : Int32)) % (2046 : Int32)))), .val (.int (own_j0_16_0 i2)), .val (.long (1000000000000000 : Int64)), .second, .val (.long (301029995663981 : Int64)), .second, .val (.long (-124938736608300 : Int64)), .second, .unset, .unset, .unset, .unset] [(.long (((-1074 : Int32) + ((i1 &&& (2147483647 : Int32)) % (2046 : Int32))).toInt64))])) _
    refine XS.lload X0.here hx rfl (hb hby at_42) rfl ?_
    show Steps p.tables e below (s₁.setTop (mkF m 44 #[.val (.int i1), .val (.int i2), .val (.int ((-1074 : Int32) + ((i1 &&& (2147483647 : Int32)) % (2046 : Int32)))), .val (.int (own_j0_16_0 i2)), .val (.long (1000000000000000 : Int64)), .second, .val (.long (301029995663981 : Int64)), .second, .val (.long (-124938736608300 : Int64)), .second, .unset, .unset, .unset, .unset] [(.long (301029995663981 : Int64)), (.long (((-1074 : Int32) + ((i1 &&& (2147483647 : Int32)) % (2046 : Int32))).toInt64))])) _
    refine XS.lmul X0.here hx rfl (hb hby at_44) rfl ?_
    show Steps p.tables e below (s₁.setTop (mkF m 45 #[.val (.int i1), .val (.int i2), .val (.int ((-1074 : Int32) + ((i1 &&& (2147483647 : Int32)) % (2046 : Int32)))), .val (.int (own_j0_16_0 i2)), .val (.long (1000000000000000 : Int64)), .second, .val (.long (301029995663981 : Int64)), .second, .val (.long (-124938736608300 : Int64)), .second, .unset, .unset, .unset, .unset] [(.long ((((-1074 : Int32) + ((i1 &&& (2147483647 : Int32)) % (2046 : Int32))).toInt64) * (301029995663981 : Int64)))])) _
    refine XS.iloadN X0.here hx rfl (hb hby at_45) rfl ?_
    exact k
  have pre10 : ∀ t, Steps p.tables e below (s₁.setTop (mkF m 55 #[.val (.int i1), .val (.int i2), .val (.int ((-1074 : Int32) + ((i1 &&& (2147483647 : Int32)) % (2046 : Int32)))), .val (.int (own_j0_16_0 i2)), .val (.long (1000000000000000 : Int64)), .second, .val (.long (301029995663981 : Int64)), .second, .val (.long (-124938736608300 : Int64)), .second, .unset, .unset, .unset, .unset] [(.long (own_j0_46_0 i2)), (.long ((((-1074 : Int32) + ((i1 &&& (2147483647 : Int32)) % (2046 : Int32))).toInt64) * (301029995663981 : Int64)))])) t → Steps p.tables e below (s₁.setTop (entryFrame m #[(.int i1), (.int i2)] maxLocals)) t := by
    by_cases hc46_7 : (own_j0_16_0 i2) = (0 : Int32)
    · have pre8 : ∀ t, Steps p.tables e below (s₁.setTop (mkF m 55 #[.val (.int i1), .val (.int i2), .val (.int ((-1074 : Int32) + ((i1 &&& (2147483647 : Int32)) % (2046 : Int32)))), .val (.int (own_j0_16_0 i2)), .val (.long (1000000000000000 : Int64)), .second, .val (.long (301029995663981 : Int64)), .second, .val (.long (-124938736608300 : Int64)), .second, .unset, .unset, .unset, .unset] [(.long (0 : Int64)), (.long ((((-1074 : Int32) + ((i1 &&& (2147483647 : Int32)) % (2046 : Int32))).toInt64) * (301029995663981 : Int64)))])) t → Steps p.tables e below (s₁.setTop (entryFrame m #[(.int i1), (.int i2)] maxLocals)) t := by
        intro t k
        refine pre6 _ ?_
        show Steps p.tables e below (s₁.setTop (mkF m 46 #[.val (.int i1), .val (.int i2), .val (.int ((-1074 : Int32) + ((i1 &&& (2147483647 : Int32)) % (2046 : Int32)))), .val (.int (own_j0_16_0 i2)), .val (.long (1000000000000000 : Int64)), .second, .val (.long (301029995663981 : Int64)), .second, .val (.long (-124938736608300 : Int64)), .second, .unset, .unset, .unset, .unset] [(.int (own_j0_16_0 i2)), (.long ((((-1074 : Int32) + ((i1 &&& (2147483647 : Int32)) % (2046 : Int32))).toInt64) * (301029995663981 : Int64)))])) _
        refine XS.ifYes X0.here hx rfl (pc0 := 46) (pc' := 54) rfl (hb hby at_46) rfl ((if0 _ _).trans (teq hc46_7).1) (by decide) (by decide) ?_
        show Steps p.tables e below (s₁.setTop (mkF m 54 #[.val (.int i1), .val (.int i2), .val (.int ((-1074 : Int32) + ((i1 &&& (2147483647 : Int32)) % (2046 : Int32)))), .val (.int (own_j0_16_0 i2)), .val (.long (1000000000000000 : Int64)), .second, .val (.long (301029995663981 : Int64)), .second, .val (.long (-124938736608300 : Int64)), .second, .unset, .unset, .unset, .unset] [(.long ((((-1074 : Int32) + ((i1 &&& (2147483647 : Int32)) % (2046 : Int32))).toInt64) * (301029995663981 : Int64)))])) _
        refine XS.lconst X0.here hx rfl (hb hby at_54) ?_
        exact k
      exact fun t k => pre8 t (by rw [show (own_j0_46_0 i2) = (0 : Int64) from (if_pos hc46_7)] at k; exact k)
    · have pre9 : ∀ t, Steps p.tables e below (s₁.setTop (mkF m 55 #[.val (.int i1), .val (.int i2), .val (.int ((-1074 : Int32) + ((i1 &&& (2147483647 : Int32)) % (2046 : Int32)))), .val (.int (own_j0_16_0 i2)), .val (.long (1000000000000000 : Int64)), .second, .val (.long (301029995663981 : Int64)), .second, .val (.long (-124938736608300 : Int64)), .second, .unset, .unset, .unset, .unset] [(.long (-124938736608300 : Int64)), (.long ((((-1074 : Int32) + ((i1 &&& (2147483647 : Int32)) % (2046 : Int32))).toInt64) * (301029995663981 : Int64)))])) t → Steps p.tables e below (s₁.setTop (entryFrame m #[(.int i1), (.int i2)] maxLocals)) t := by
        intro t k
        refine pre6 _ ?_
        show Steps p.tables e below (s₁.setTop (mkF m 46 #[.val (.int i1), .val (.int i2), .val (.int ((-1074 : Int32) + ((i1 &&& (2147483647 : Int32)) % (2046 : Int32)))), .val (.int (own_j0_16_0 i2)), .val (.long (1000000000000000 : Int64)), .second, .val (.long (301029995663981 : Int64)), .second, .val (.long (-124938736608300 : Int64)), .second, .unset, .unset, .unset, .unset] [(.int (own_j0_16_0 i2)), (.long ((((-1074 : Int32) + ((i1 &&& (2147483647 : Int32)) % (2046 : Int32))).toInt64) * (301029995663981 : Int64)))])) _
        refine XS.ifNo X0.here hx rfl (hb hby at_46) rfl ((if0 _ _).trans (feq hc46_7).1) ?_
        show Steps p.tables e below (s₁.setTop (mkF m 49 #[.val (.int i1), .val (.int i2), .val (.int ((-1074 : Int32) + ((i1 &&& (2147483647 : Int32)) % (2046 : Int32)))), .val (.int (own_j0_16_0 i2)), .val (.long (1000000000000000 : Int64)), .second, .val (.long (301029995663981 : Int64)), .second, .val (.long (-124938736608300 : Int64)), .second, .unset, .unset, .unset, .unset] [(.long ((((-1074 : Int32) + ((i1 &&& (2147483647 : Int32)) % (2046 : Int32))).toInt64) * (301029995663981 : Int64)))])) _
        refine XS.lload X0.here hx rfl (hb hby at_49) rfl ?_
        show Steps p.tables e below (s₁.setTop (mkF m 51 #[.val (.int i1), .val (.int i2), .val (.int ((-1074 : Int32) + ((i1 &&& (2147483647 : Int32)) % (2046 : Int32)))), .val (.int (own_j0_16_0 i2)), .val (.long (1000000000000000 : Int64)), .second, .val (.long (301029995663981 : Int64)), .second, .val (.long (-124938736608300 : Int64)), .second, .unset, .unset, .unset, .unset] [(.long (-124938736608300 : Int64)), (.long ((((-1074 : Int32) + ((i1 &&& (2147483647 : Int32)) % (2046 : Int32))).toInt64) * (301029995663981 : Int64)))])) _
        refine XS.goto X0.here hx rfl (pc0 := 51) (pc' := 55) rfl (hb hby at_51) (by decide) (by decide) ?_
        exact k
      exact fun t k => pre9 t (by rw [show (own_j0_46_0 i2) = (-124938736608300 : Int64) from (if_neg hc46_7)] at k; exact k)
  obtain ⟨_, _, ⟨T11, L11, k11, n11⟩, -, X11, ⟨Lc11, hQ11, l11, y11, z11⟩, st11⟩ := Jvm.LawKit.callS X0 hx (y := (⟨"com/example/terseform/terseform/codec/ShortestDecimalFloorLog10OfWidthPinLaw", "floorDiv", "(JJ)J"⟩ : MethodName)) hown (mvT hZ (hw _ (List.mem_of_getElem? (i := 4) rfl))) (mvT hZ (hw _ (List.mem_of_getElem? (i := 5) rfl))) (mvT hZ (hw _ (List.mem_of_getElem? (i := 6) rfl))) (mvT hZ (hw _ (List.mem_of_getElem? (i := 7) rfl))) (by decide) (backOf (W := 0) (rm1 l Z a0 hw [] (((((-1074 : Int32) + ((i1 &&& (2147483647 : Int32)) % (2046 : Int32))).toInt64) * (301029995663981 : Int64)) + (own_j0_46_0 i2)) (1000000000000000 : Int64) h0 n0 (Nat.le_trans Z0 (Keep.refl h0 []).1) (by decide)) hZ (hw _ (List.mem_of_getElem? (i := 7) rfl)) (hw _ (List.mem_of_getElem? (i := 6) rfl)) (by decide) (by decide)) (g := (mkF m 62 #[.val (.int i1), .val (.int i2), .val (.int ((-1074 : Int32) + ((i1 &&& (2147483647 : Int32)) % (2046 : Int32)))), .val (.int (own_j0_16_0 i2)), .val (.long (1000000000000000 : Int64)), .second, .val (.long (301029995663981 : Int64)), .second, .val (.long (-124938736608300 : Int64)), .second, .val (.long (((((-1074 : Int32) + ((i1 &&& (2147483647 : Int32)) % (2046 : Int32))).toInt64) * (301029995663981 : Int64)) + (own_j0_46_0 i2))), .second, .unset, .unset] [(.long (1000000000000000 : Int64)), (.long (((((-1074 : Int32) + ((i1 &&& (2147483647 : Int32)) % (2046 : Int32))).toInt64) * (301029995663981 : Int64)) + (own_j0_46_0 i2)))])) rfl (by rw [hml]; rfl) (argsL := [(.long (((((-1074 : Int32) + ((i1 &&& (2147483647 : Int32)) % (2046 : Int32))).toInt64) * (301029995663981 : Int64)) + (own_j0_46_0 i2))), (.long (1000000000000000 : Int64))]) (rest := []) (lenOf pd_0 rfl) rfl (by show 2 * 0 + _ ≤ _; exact Nat.le_of_eq rfl) (hb hby at_62) (fun _ _ => ⟨rfl, e0, (by decide : 0 + 0 ≤ _), (by decide : 0 + 0 ≤ _)⟩)
  dsimp only [Pt.U, Pt.locs, Pt.cells, Pt.slots] at X11 l11 y11 z11 st11 hQ11
  subst l11 y11 z11
  obtain ⟨rfl, Nq11, e11⟩ := hQ11
  have N11 := Fr.app N0 Nq11
  obtain ⟨_, _, ⟨T12, L12, k12, n12⟩, -, X12, ⟨Lc12, hQ12, l12, y12, z12⟩, st12⟩ := Jvm.LawKit.callS X11 hx (y := (⟨"com/example/terseform/terseform/codec/ShortestDecimal", "floorLog10OfWidth", "(IZ)I"⟩ : MethodName)) hown (mvT hZ (hw _ (List.mem_of_getElem? (i := 8) rfl))) (mvT hZ (hw _ (List.mem_of_getElem? (i := 9) rfl))) (mvT hZ (hw _ (List.mem_of_getElem? (i := 10) rfl))) (mvT hZ (hw _ (List.mem_of_getElem? (i := 11) rfl))) (by decide) (backOf (W := 0) (rm2 l Z a0 hw [] ((-1074 : Int32) + ((i1 &&& (2147483647 : Int32)) % (2046 : Int32))) (own_j0_16_0 i2) h0 n0 (Nat.le_trans Z0 (Keep.refl h0 []).1) ) hZ (hw _ (List.mem_of_getElem? (i := 11) rfl)) (hw _ (List.mem_of_getElem? (i := 10) rfl)) (by decide) (by decide)) (g := (mkF m 69 #[.val (.int i1), .val (.int i2), .val (.int ((-1074 : Int32) + ((i1 &&& (2147483647 : Int32)) % (2046 : Int32)))), .val (.int (own_j0_16_0 i2)), .val (.long (1000000000000000 : Int64)), .second, .val (.long (301029995663981 : Int64)), .second, .val (.long (-124938736608300 : Int64)), .second, .val (.long (((((-1074 : Int32) + ((i1 &&& (2147483647 : Int32)) % (2046 : Int32))).toInt64) * (301029995663981 : Int64)) + (own_j0_46_0 i2))), .second, .val (.long (own_j1_3_0 (((((-1074 : Int32) + ((i1 &&& (2147483647 : Int32)) % (2046 : Int32))).toInt64) * (301029995663981 : Int64)) + (own_j0_46_0 i2)) (1000000000000000 : Int64))), .second] [(.int (own_j0_16_0 i2)), (.int ((-1074 : Int32) + ((i1 &&& (2147483647 : Int32)) % (2046 : Int32))))])) rfl (by rw [hml]; rfl) (argsL := [(.int ((-1074 : Int32) + ((i1 &&& (2147483647 : Int32)) % (2046 : Int32)))), (.int (own_j0_16_0 i2))]) (rest := []) (lenOf pd_1 rfl) rfl (by show 2 * 0 + _ ≤ _; exact Nat.le_of_eq rfl) (hb hby at_69) (fun _ _ => ⟨rfl, e11, (by decide : 0 + 0 ≤ _), (by decide : 0 + 0 ≤ _)⟩)
  dsimp only [Pt.U, Pt.locs, Pt.cells, Pt.slots] at X12 l12 y12 z12 st12 hQ12
  subst l12 y12 z12
  obtain ⟨rfl, Nq12, e12⟩ := hQ12
  have N12 := Fr.app N11 Nq12
  have pre13 : ∀ t, Steps p.tables e below (T12.setTop (mkF m 76 #[.val (.int i1), .val (.int i2), .val (.int ((-1074 : Int32) + ((i1 &&& (2147483647 : Int32)) % (2046 : Int32)))), .val (.int (own_j0_16_0 i2)), .val (.long (1000000000000000 : Int64)), .second, .val (.long (301029995663981 : Int64)), .second, .val (.long (-124938736608300 : Int64)), .second, .val (.long (((((-1074 : Int32) + ((i1 &&& (2147483647 : Int32)) % (2046 : Int32))).toInt64) * (301029995663981 : Int64)) + (own_j0_46_0 i2))), .second, .val (.long (own_j1_3_0 (((((-1074 : Int32) + ((i1 &&& (2147483647 : Int32)) % (2046 : Int32))).toInt64) * (301029995663981 : Int64)) + (own_j0_46_0 i2)) (1000000000000000 : Int64))), .second] [(.int (lcmpW ((((((-1074 : Int32) + ((i1 &&& (2147483647 : Int32)) % (2046 : Int32))) * (1262611 : Int32)) + (own_j2_5_0 (own_j0_16_0 i2))) >>> ((22 : Int32) &&& 31)).toInt64) (own_j1_3_0 (((((-1074 : Int32) + ((i1 &&& (2147483647 : Int32)) % (2046 : Int32))).toInt64) * (301029995663981 : Int64)) + (own_j0_46_0 i2)) (1000000000000000 : Int64))))])) t → Steps p.tables e below (s₁.setTop (entryFrame m #[(.int i1), (.int i2)] maxLocals)) t := by
    intro t k
    refine pre10 _ ?_
    show Steps p.tables e below (s₁.setTop (mkF m 55 #[.val (.int i1), .val (.int i2), .val (.int ((-1074 : Int32) + ((i1 &&& (2147483647 : Int32)) % (2046 : Int32)))), .val (.int (own_j0_16_0 i2)), .val (.long (1000000000000000 : Int64)), .second, .val (.long (301029995663981 : Int64)), .second, .val (.long (-124938736608300 : Int64)), .second, .unset, .unset, .unset, .unset] [(.long (own_j0_46_0 i2)), (.long ((((-1074 : Int32) + ((i1 &&& (2147483647 : Int32)) % (2046 : Int32))).toInt64) * (301029995663981 : Int64)))])) _
    refine XS.ladd X0.here hx rfl (hb hby at_55) rfl ?_
    show Steps p.tables e below (s₁.setTop (mkF m 56 #[.val (.int i1), .val (.int i2), .val (.int ((-1074 : Int32) + ((i1 &&& (2147483647 : Int32)) % (2046 : Int32)))), .val (.int (own_j0_16_0 i2)), .val (.long (1000000000000000 : Int64)), .second, .val (.long (301029995663981 : Int64)), .second, .val (.long (-124938736608300 : Int64)), .second, .unset, .unset, .unset, .unset] [(.long (((((-1074 : Int32) + ((i1 &&& (2147483647 : Int32)) % (2046 : Int32))).toInt64) * (301029995663981 : Int64)) + (own_j0_46_0 i2)))])) _
    refine XS.lstore X0.here hx rfl (hb hby at_56) rfl (l' := #[.val (.int i1), .val (.int i2), .val (.int ((-1074 : Int32) + ((i1 &&& (2147483647 : Int32)) % (2046 : Int32)))), .val (.int (own_j0_16_0 i2)), .val (.long (1000000000000000 : Int64)), .second, .val (.long (301029995663981 : Int64)), .second, .val (.long (-124938736608300 : Int64)), .second, .val (.long (((((-1074 : Int32) + ((i1 &&& (2147483647 : Int32)) % (2046 : Int32))).toInt64) * (301029995663981 : Int64)) + (own_j0_46_0 i2))), .second, .unset, .unset]) rfl ?_
    show Steps p.tables e below (s₁.setTop (mkF m 58 #[.val (.int i1), .val (.int i2), .val (.int ((-1074 : Int32) + ((i1 &&& (2147483647 : Int32)) % (2046 : Int32)))), .val (.int (own_j0_16_0 i2)), .val (.long (1000000000000000 : Int64)), .second, .val (.long (301029995663981 : Int64)), .second, .val (.long (-124938736608300 : Int64)), .second, .val (.long (((((-1074 : Int32) + ((i1 &&& (2147483647 : Int32)) % (2046 : Int32))).toInt64) * (301029995663981 : Int64)) + (own_j0_46_0 i2))), .second, .unset, .unset] [])) _
    refine XS.lload X0.here hx rfl (hb hby at_58) rfl ?_
    show Steps p.tables e below (s₁.setTop (mkF m 60 #[.val (.int i1), .val (.int i2), .val (.int ((-1074 : Int32) + ((i1 &&& (2147483647 : Int32)) % (2046 : Int32)))), .val (.int (own_j0_16_0 i2)), .val (.long (1000000000000000 : Int64)), .second, .val (.long (301029995663981 : Int64)), .second, .val (.long (-124938736608300 : Int64)), .second, .val (.long (((((-1074 : Int32) + ((i1 &&& (2147483647 : Int32)) % (2046 : Int32))).toInt64) * (301029995663981 : Int64)) + (own_j0_46_0 i2))), .second, .unset, .unset] [(.long (((((-1074 : Int32) + ((i1 &&& (2147483647 : Int32)) % (2046 : Int32))).toInt64) * (301029995663981 : Int64)) + (own_j0_46_0 i2)))])) _
    refine XS.lload X0.here hx rfl (hb hby at_60) rfl ?_
    show Steps p.tables e below (s₁.setTop (mkF m 62 #[.val (.int i1), .val (.int i2), .val (.int ((-1074 : Int32) + ((i1 &&& (2147483647 : Int32)) % (2046 : Int32)))), .val (.int (own_j0_16_0 i2)), .val (.long (1000000000000000 : Int64)), .second, .val (.long (301029995663981 : Int64)), .second, .val (.long (-124938736608300 : Int64)), .second, .val (.long (((((-1074 : Int32) + ((i1 &&& (2147483647 : Int32)) % (2046 : Int32))).toInt64) * (301029995663981 : Int64)) + (own_j0_46_0 i2))), .second, .unset, .unset] [(.long (1000000000000000 : Int64)), (.long (((((-1074 : Int32) + ((i1 &&& (2147483647 : Int32)) % (2046 : Int32))).toInt64) * (301029995663981 : Int64)) + (own_j0_46_0 i2)))])) _
    refine st11 _ ?_
    show Steps p.tables e below (T11.setTop (mkF m 65 #[.val (.int i1), .val (.int i2), .val (.int ((-1074 : Int32) + ((i1 &&& (2147483647 : Int32)) % (2046 : Int32)))), .val (.int (own_j0_16_0 i2)), .val (.long (1000000000000000 : Int64)), .second, .val (.long (301029995663981 : Int64)), .second, .val (.long (-124938736608300 : Int64)), .second, .val (.long (((((-1074 : Int32) + ((i1 &&& (2147483647 : Int32)) % (2046 : Int32))).toInt64) * (301029995663981 : Int64)) + (own_j0_46_0 i2))), .second, .unset, .unset] [(.long (own_j1_3_0 (((((-1074 : Int32) + ((i1 &&& (2147483647 : Int32)) % (2046 : Int32))).toInt64) * (301029995663981 : Int64)) + (own_j0_46_0 i2)) (1000000000000000 : Int64)))])) _
    refine XS.lstore X11.here hx rfl (hb hby at_65) rfl (l' := #[.val (.int i1), .val (.int i2), .val (.int ((-1074 : Int32) + ((i1 &&& (2147483647 : Int32)) % (2046 : Int32)))), .val (.int (own_j0_16_0 i2)), .val (.long (1000000000000000 : Int64)), .second, .val (.long (301029995663981 : Int64)), .second, .val (.long (-124938736608300 : Int64)), .second, .val (.long (((((-1074 : Int32) + ((i1 &&& (2147483647 : Int32)) % (2046 : Int32))).toInt64) * (301029995663981 : Int64)) + (own_j0_46_0 i2))), .second, .val (.long (own_j1_3_0 (((((-1074 : Int32) + ((i1 &&& (2147483647 : Int32)) % (2046 : Int32))).toInt64) * (301029995663981 : Int64)) + (own_j0_46_0 i2)) (1000000000000000 : Int64))), .second]) rfl ?_
    show Steps p.tables e below (T11.setTop (mkF m 67 #[.val (.int i1), .val (.int i2), .val (.int ((-1074 : Int32) + ((i1 &&& (2147483647 : Int32)) % (2046 : Int32)))), .val (.int (own_j0_16_0 i2)), .val (.long (1000000000000000 : Int64)), .second, .val (.long (301029995663981 : Int64)), .second, .val (.long (-124938736608300 : Int64)), .second, .val (.long (((((-1074 : Int32) + ((i1 &&& (2147483647 : Int32)) % (2046 : Int32))).toInt64) * (301029995663981 : Int64)) + (own_j0_46_0 i2))), .second, .val (.long (own_j1_3_0 (((((-1074 : Int32) + ((i1 &&& (2147483647 : Int32)) % (2046 : Int32))).toInt64) * (301029995663981 : Int64)) + (own_j0_46_0 i2)) (1000000000000000 : Int64))), .second] [])) _
    refine XS.iloadN X11.here hx rfl (hb hby at_67) rfl ?_
    show Steps p.tables e below (T11.setTop (mkF m 68 #[.val (.int i1), .val (.int i2), .val (.int ((-1074 : Int32) + ((i1 &&& (2147483647 : Int32)) % (2046 : Int32)))), .val (.int (own_j0_16_0 i2)), .val (.long (1000000000000000 : Int64)), .second, .val (.long (301029995663981 : Int64)), .second, .val (.long (-124938736608300 : Int64)), .second, .val (.long (((((-1074 : Int32) + ((i1 &&& (2147483647 : Int32)) % (2046 : Int32))).toInt64) * (301029995663981 : Int64)) + (own_j0_46_0 i2))), .second, .val (.long (own_j1_3_0 (((((-1074 : Int32) + ((i1 &&& (2147483647 : Int32)) % (2046 : Int32))).toInt64) * (301029995663981 : Int64)) + (own_j0_46_0 i2)) (1000000000000000 : Int64))), .second] [(.int ((-1074 : Int32) + ((i1 &&& (2147483647 : Int32)) % (2046 : Int32))))])) _
    refine XS.iloadN X11.here hx rfl (hb hby at_68) rfl ?_
    show Steps p.tables e below (T11.setTop (mkF m 69 #[.val (.int i1), .val (.int i2), .val (.int ((-1074 : Int32) + ((i1 &&& (2147483647 : Int32)) % (2046 : Int32)))), .val (.int (own_j0_16_0 i2)), .val (.long (1000000000000000 : Int64)), .second, .val (.long (301029995663981 : Int64)), .second, .val (.long (-124938736608300 : Int64)), .second, .val (.long (((((-1074 : Int32) + ((i1 &&& (2147483647 : Int32)) % (2046 : Int32))).toInt64) * (301029995663981 : Int64)) + (own_j0_46_0 i2))), .second, .val (.long (own_j1_3_0 (((((-1074 : Int32) + ((i1 &&& (2147483647 : Int32)) % (2046 : Int32))).toInt64) * (301029995663981 : Int64)) + (own_j0_46_0 i2)) (1000000000000000 : Int64))), .second] [(.int (own_j0_16_0 i2)), (.int ((-1074 : Int32) + ((i1 &&& (2147483647 : Int32)) % (2046 : Int32))))])) _
    refine st12 _ ?_
    show Steps p.tables e below (T12.setTop (mkF m 72 #[.val (.int i1), .val (.int i2), .val (.int ((-1074 : Int32) + ((i1 &&& (2147483647 : Int32)) % (2046 : Int32)))), .val (.int (own_j0_16_0 i2)), .val (.long (1000000000000000 : Int64)), .second, .val (.long (301029995663981 : Int64)), .second, .val (.long (-124938736608300 : Int64)), .second, .val (.long (((((-1074 : Int32) + ((i1 &&& (2147483647 : Int32)) % (2046 : Int32))).toInt64) * (301029995663981 : Int64)) + (own_j0_46_0 i2))), .second, .val (.long (own_j1_3_0 (((((-1074 : Int32) + ((i1 &&& (2147483647 : Int32)) % (2046 : Int32))).toInt64) * (301029995663981 : Int64)) + (own_j0_46_0 i2)) (1000000000000000 : Int64))), .second] [(.int (((((-1074 : Int32) + ((i1 &&& (2147483647 : Int32)) % (2046 : Int32))) * (1262611 : Int32)) + (own_j2_5_0 (own_j0_16_0 i2))) >>> ((22 : Int32) &&& 31)))])) _
    refine XS.i2l X12.here hx rfl (hb hby at_72) rfl ?_
    show Steps p.tables e below (T12.setTop (mkF m 73 #[.val (.int i1), .val (.int i2), .val (.int ((-1074 : Int32) + ((i1 &&& (2147483647 : Int32)) % (2046 : Int32)))), .val (.int (own_j0_16_0 i2)), .val (.long (1000000000000000 : Int64)), .second, .val (.long (301029995663981 : Int64)), .second, .val (.long (-124938736608300 : Int64)), .second, .val (.long (((((-1074 : Int32) + ((i1 &&& (2147483647 : Int32)) % (2046 : Int32))).toInt64) * (301029995663981 : Int64)) + (own_j0_46_0 i2))), .second, .val (.long (own_j1_3_0 (((((-1074 : Int32) + ((i1 &&& (2147483647 : Int32)) % (2046 : Int32))).toInt64) * (301029995663981 : Int64)) + (own_j0_46_0 i2)) (1000000000000000 : Int64))), .second] [(.long ((((((-1074 : Int32) + ((i1 &&& (2147483647 : Int32)) % (2046 : Int32))) * (1262611 : Int32)) + (own_j2_5_0 (own_j0_16_0 i2))) >>> ((22 : Int32) &&& 31)).toInt64))])) _
    refine XS.lload X12.here hx rfl (hb hby at_73) rfl ?_
    show Steps p.tables e below (T12.setTop (mkF m 75 #[.val (.int i1), .val (.int i2), .val (.int ((-1074 : Int32) + ((i1 &&& (2147483647 : Int32)) % (2046 : Int32)))), .val (.int (own_j0_16_0 i2)), .val (.long (1000000000000000 : Int64)), .second, .val (.long (301029995663981 : Int64)), .second, .val (.long (-124938736608300 : Int64)), .second, .val (.long (((((-1074 : Int32) + ((i1 &&& (2147483647 : Int32)) % (2046 : Int32))).toInt64) * (301029995663981 : Int64)) + (own_j0_46_0 i2))), .second, .val (.long (own_j1_3_0 (((((-1074 : Int32) + ((i1 &&& (2147483647 : Int32)) % (2046 : Int32))).toInt64) * (301029995663981 : Int64)) + (own_j0_46_0 i2)) (1000000000000000 : Int64))), .second] [(.long (own_j1_3_0 (((((-1074 : Int32) + ((i1 &&& (2147483647 : Int32)) % (2046 : Int32))).toInt64) * (301029995663981 : Int64)) + (own_j0_46_0 i2)) (1000000000000000 : Int64))), (.long ((((((-1074 : Int32) + ((i1 &&& (2147483647 : Int32)) % (2046 : Int32))) * (1262611 : Int32)) + (own_j2_5_0 (own_j0_16_0 i2))) >>> ((22 : Int32) &&& 31)).toInt64))])) _
    refine XS.lcmp X12.here hx rfl (hb hby at_75) rfl ?_
    exact k
  have pre17 : ∀ t, Steps p.tables e below (T12.setTop (mkF m 84 #[.val (.int i1), .val (.int i2), .val (.int ((-1074 : Int32) + ((i1 &&& (2147483647 : Int32)) % (2046 : Int32)))), .val (.int (own_j0_16_0 i2)), .val (.long (1000000000000000 : Int64)), .second, .val (.long (301029995663981 : Int64)), .second, .val (.long (-124938736608300 : Int64)), .second, .val (.long (((((-1074 : Int32) + ((i1 &&& (2147483647 : Int32)) % (2046 : Int32))).toInt64) * (301029995663981 : Int64)) + (own_j0_46_0 i2))), .second, .val (.long (own_j1_3_0 (((((-1074 : Int32) + ((i1 &&& (2147483647 : Int32)) % (2046 : Int32))).toInt64) * (301029995663981 : Int64)) + (own_j0_46_0 i2)) (1000000000000000 : Int64))), .second] [(.int (own_j0_76_0 i1 i2))])) t → Steps p.tables e below (s₁.setTop (entryFrame m #[(.int i1), (.int i2)] maxLocals)) t := by
    by_cases hc76_14 : ((((((-1074 : Int32) + ((i1 &&& (2147483647 : Int32)) % (2046 : Int32))) * (1262611 : Int32)) + (own_j2_5_0 (own_j0_16_0 i2))) >>> ((22 : Int32) &&& 31)).toInt64) = (own_j1_3_0 (((((-1074 : Int32) + ((i1 &&& (2147483647 : Int32)) % (2046 : Int32))).toInt64) * (301029995663981 : Int64)) + (own_j0_46_0 i2)) (1000000000000000 : Int64))
    · have pre15 : ∀ t, Steps p.tables e below (T12.setTop (mkF m 84 #[.val (.int i1), .val (.int i2), .val (.int ((-1074 : Int32) + ((i1 &&& (2147483647 : Int32)) % (2046 : Int32)))), .val (.int (own_j0_16_0 i2)), .val (.long (1000000000000000 : Int64)), .second, .val (.long (301029995663981 : Int64)), .second, .val (.long (-124938736608300 : Int64)), .second, .val (.long (((((-1074 : Int32) + ((i1 &&& (2147483647 : Int32)) % (2046 : Int32))).toInt64) * (301029995663981 : Int64)) + (own_j0_46_0 i2))), .second, .val (.long (own_j1_3_0 (((((-1074 : Int32) + ((i1 &&& (2147483647 : Int32)) % (2046 : Int32))).toInt64) * (301029995663981 : Int64)) + (own_j0_46_0 i2)) (1000000000000000 : Int64))), .second] [(.int (1 : Int32))])) t → Steps p.tables e below (s₁.setTop (entryFrame m #[(.int i1), (.int i2)] maxLocals)) t := by
        intro t k
        refine pre13 _ ?_
        show Steps p.tables e below (T12.setTop (mkF m 76 #[.val (.int i1), .val (.int i2), .val (.int ((-1074 : Int32) + ((i1 &&& (2147483647 : Int32)) % (2046 : Int32)))), .val (.int (own_j0_16_0 i2)), .val (.long (1000000000000000 : Int64)), .second, .val (.long (301029995663981 : Int64)), .second, .val (.long (-124938736608300 : Int64)), .second, .val (.long (((((-1074 : Int32) + ((i1 &&& (2147483647 : Int32)) % (2046 : Int32))).toInt64) * (301029995663981 : Int64)) + (own_j0_46_0 i2))), .second, .val (.long (own_j1_3_0 (((((-1074 : Int32) + ((i1 &&& (2147483647 : Int32)) % (2046 : Int32))).toInt64) * (301029995663981 : Int64)) + (own_j0_46_0 i2)) (1000000000000000 : Int64))), .second] [(.int (lcmpW ((((((-1074 : Int32) + ((i1 &&& (2147483647 : Int32)) % (2046 : Int32))) * (1262611 : Int32)) + (own_j2_5_0 (own_j0_16_0 i2))) >>> ((22 : Int32) &&& 31)).toInt64) (own_j1_3_0 (((((-1074 : Int32) + ((i1 &&& (2147483647 : Int32)) % (2046 : Int32))).toInt64) * (301029995663981 : Int64)) + (own_j0_46_0 i2)) (1000000000000000 : Int64))))])) _
        refine XS.ifNo X12.here hx rfl (hb hby at_76) rfl ((if0 _ _).trans (teq ((lw_eq ((((((-1074 : Int32) + ((i1 &&& (2147483647 : Int32)) % (2046 : Int32))) * (1262611 : Int32)) + (own_j2_5_0 (own_j0_16_0 i2))) >>> ((22 : Int32) &&& 31)).toInt64) (own_j1_3_0 (((((-1074 : Int32) + ((i1 &&& (2147483647 : Int32)) % (2046 : Int32))).toInt64) * (301029995663981 : Int64)) + (own_j0_46_0 i2)) (1000000000000000 : Int64))).mpr hc76_14)).2) ?_
        show Steps p.tables e below (T12.setTop (mkF m 79 #[.val (.int i1), .val (.int i2), .val (.int ((-1074 : Int32) + ((i1 &&& (2147483647 : Int32)) % (2046 : Int32)))), .val (.int (own_j0_16_0 i2)), .val (.long (1000000000000000 : Int64)), .second, .val (.long (301029995663981 : Int64)), .second, .val (.long (-124938736608300 : Int64)), .second, .val (.long (((((-1074 : Int32) + ((i1 &&& (2147483647 : Int32)) % (2046 : Int32))).toInt64) * (301029995663981 : Int64)) + (own_j0_46_0 i2))), .second, .val (.long (own_j1_3_0 (((((-1074 : Int32) + ((i1 &&& (2147483647 : Int32)) % (2046 : Int32))).toInt64) * (301029995663981 : Int64)) + (own_j0_46_0 i2)) (1000000000000000 : Int64))), .second] [])) _
        refine XS.iconst X12.here hx rfl (hb hby at_79) ?_
        show Steps p.tables e below (T12.setTop (mkF m 80 #[.val (.int i1), .val (.int i2), .val (.int ((-1074 : Int32) + ((i1 &&& (2147483647 : Int32)) % (2046 : Int32)))), .val (.int (own_j0_16_0 i2)), .val (.long (1000000000000000 : Int64)), .second, .val (.long (301029995663981 : Int64)), .second, .val (.long (-124938736608300 : Int64)), .second, .val (.long (((((-1074 : Int32) + ((i1 &&& (2147483647 : Int32)) % (2046 : Int32))).toInt64) * (301029995663981 : Int64)) + (own_j0_46_0 i2))), .second, .val (.long (own_j1_3_0 (((((-1074 : Int32) + ((i1 &&& (2147483647 : Int32)) % (2046 : Int32))).toInt64) * (301029995663981 : Int64)) + (own_j0_46_0 i2)) (1000000000000000 : Int64))), .second] [(.int (1 : Int32))])) _
        refine XS.goto X12.here hx rfl (pc0 := 80) (pc' := 84) rfl (hb hby at_80) (by decide) (by decide) ?_
        exact k
      exact fun t k => pre15 t (by rw [show (own_j0_76_0 i1 i2) = (1 : Int32) from (if_pos hc76_14)] at k; exact k)
    · have pre16 : ∀ t, Steps p.tables e below (T12.setTop (mkF m 84 #[.val (.int i1), .val (.int i2), .val (.int ((-1074 : Int32) + ((i1 &&& (2147483647 : Int32)) % (2046 : Int32)))), .val (.int (own_j0_16_0 i2)), .val (.long (1000000000000000 : Int64)), .second, .val (.long (301029995663981 : Int64)), .second, .val (.long (-124938736608300 : Int64)), .second, .val (.long (((((-1074 : Int32) + ((i1 &&& (2147483647 : Int32)) % (2046 : Int32))).toInt64) * (301029995663981 : Int64)) + (own_j0_46_0 i2))), .second, .val (.long (own_j1_3_0 (((((-1074 : Int32) + ((i1 &&& (2147483647 : Int32)) % (2046 : Int32))).toInt64) * (301029995663981 : Int64)) + (own_j0_46_0 i2)) (1000000000000000 : Int64))), .second] [(.int (0 : Int32))])) t → Steps p.tables e below (s₁.setTop (entryFrame m #[(.int i1), (.int i2)] maxLocals)) t := by
        intro t k
        refine pre13 _ ?_
        show Steps p.tables e below (T12.setTop (mkF m 76 #[.val (.int i1), .val (.int i2), .val (.int ((-1074 : Int32) + ((i1 &&& (2147483647 : Int32)) % (2046 : Int32)))), .val (.int (own_j0_16_0 i2)), .val (.long (1000000000000000 : Int64)), .second, .val (.long (301029995663981 : Int64)), .second, .val (.long (-124938736608300 : Int64)), .second, .val (.long (((((-1074 : Int32) + ((i1 &&& (2147483647 : Int32)) % (2046 : Int32))).toInt64) * (301029995663981 : Int64)) + (own_j0_46_0 i2))), .second, .val (.long (own_j1_3_0 (((((-1074 : Int32) + ((i1 &&& (2147483647 : Int32)) % (2046 : Int32))).toInt64) * (301029995663981 : Int64)) + (own_j0_46_0 i2)) (1000000000000000 : Int64))), .second] [(.int (lcmpW ((((((-1074 : Int32) + ((i1 &&& (2147483647 : Int32)) % (2046 : Int32))) * (1262611 : Int32)) + (own_j2_5_0 (own_j0_16_0 i2))) >>> ((22 : Int32) &&& 31)).toInt64) (own_j1_3_0 (((((-1074 : Int32) + ((i1 &&& (2147483647 : Int32)) % (2046 : Int32))).toInt64) * (301029995663981 : Int64)) + (own_j0_46_0 i2)) (1000000000000000 : Int64))))])) _
        refine XS.ifYes X12.here hx rfl (pc0 := 76) (pc' := 83) rfl (hb hby at_76) rfl ((if0 _ _).trans (feq (mt (lw_eq ((((((-1074 : Int32) + ((i1 &&& (2147483647 : Int32)) % (2046 : Int32))) * (1262611 : Int32)) + (own_j2_5_0 (own_j0_16_0 i2))) >>> ((22 : Int32) &&& 31)).toInt64) (own_j1_3_0 (((((-1074 : Int32) + ((i1 &&& (2147483647 : Int32)) % (2046 : Int32))).toInt64) * (301029995663981 : Int64)) + (own_j0_46_0 i2)) (1000000000000000 : Int64))).mp hc76_14)).2) (by decide) (by decide) ?_
        show Steps p.tables e below (T12.setTop (mkF m 83 #[.val (.int i1), .val (.int i2), .val (.int ((-1074 : Int32) + ((i1 &&& (2147483647 : Int32)) % (2046 : Int32)))), .val (.int (own_j0_16_0 i2)), .val (.long (1000000000000000 : Int64)), .second, .val (.long (301029995663981 : Int64)), .second, .val (.long (-124938736608300 : Int64)), .second, .val (.long (((((-1074 : Int32) + ((i1 &&& (2147483647 : Int32)) % (2046 : Int32))).toInt64) * (301029995663981 : Int64)) + (own_j0_46_0 i2))), .second, .val (.long (own_j1_3_0 (((((-1074 : Int32) + ((i1 &&& (2147483647 : Int32)) % (2046 : Int32))).toInt64) * (301029995663981 : Int64)) + (own_j0_46_0 i2)) (1000000000000000 : Int64))), .second] [])) _
        refine XS.iconst X12.here hx rfl (hb hby at_83) ?_
        exact k
      exact fun t k => pre16 t (by rw [show (own_j0_76_0 i1 i2) = (0 : Int32) from (if_neg hc76_14)] at k; exact k)
  obtain ⟨fs, hr, hrun, hended, hW, hsame⟩ := X12.leave (v := some (.int (nar .boolean (own_j0_76_0 i1 i2)))) (fun h => by rw [Bd.returns] at h; cases h)
  refine ⟨_, _, pre17 _ ?_, hrun, hended, _, _, rfl, ?_, ⟨_, rfl⟩, hW, hsame.mono (by decide) (by decide)⟩
  · show Steps p.tables e below (T12.setTop (mkF m 84 #[.val (.int i1), .val (.int i2), .val (.int ((-1074 : Int32) + ((i1 &&& (2147483647 : Int32)) % (2046 : Int32)))), .val (.int (own_j0_16_0 i2)), .val (.long (1000000000000000 : Int64)), .second, .val (.long (301029995663981 : Int64)), .second, .val (.long (-124938736608300 : Int64)), .second, .val (.long (((((-1074 : Int32) + ((i1 &&& (2147483647 : Int32)) % (2046 : Int32))).toInt64) * (301029995663981 : Int64)) + (own_j0_46_0 i2))), .second, .val (.long (own_j1_3_0 (((((-1074 : Int32) + ((i1 &&& (2147483647 : Int32)) % (2046 : Int32))).toInt64) * (301029995663981 : Int64)) + (own_j0_46_0 i2)) (1000000000000000 : Int64))), .second] [(.int (own_j0_76_0 i1 i2))])) _
    exact retN X12 hx (t := .boolean) Bd.returns (by simp) (hb hby at_84) hr
  · show Q0 Z i1 i2 h0 n0 _ T12.heap _
    rw [e12]
    exact ⟨rfl, N12⟩
theorem own_law (i1 : Int32) (i2 : Int32) : (nar .boolean (own_j0_76_0 i1 i2)) = 1 := by
  apply own_nar1
  refine if_pos ?_
  have all0 : ∀ k, k < 2046 → (((((-1074 : Int32) + k.toInt32) * (1262611 : Int32)) + (own_j2_5_0 0)) >>> ((22 : Int32) &&& 31)).toInt64 = own_j1_3_0 (((((-1074 : Int32) + k.toInt32).toInt64) * (301029995663981 : Int64)) + 0) (1000000000000000 : Int64) := by decide +kernel
  have all1 : ∀ k, k < 2046 → (((((-1074 : Int32) + k.toInt32) * (1262611 : Int32)) + (own_j2_5_0 1)) >>> ((22 : Int32) &&& 31)).toInt64 = own_j1_3_0 (((((-1074 : Int32) + k.toInt32).toInt64) * (301029995663981 : Int64)) + (-124938736608300)) (1000000000000000 : Int64) := by decide +kernel
  obtain ⟨k, hk, e⟩ := own_modfin i1 2046 2046 (by decide) (by decide)
  rw [e]
  unfold own_j0_46_0
  rcases and_one i2 with h | h
  · have e1 : own_j0_16_0 i2 = 0 := if_pos h
    rw [e1, if_pos rfl]
    exact all0 k hk
  · have e1 : own_j0_16_0 i2 = 1 := if_neg (by rw [h]; decide)
    rw [e1, if_neg (by decide)]
    exact all1 k hk
set_option maxRecDepth 65536 in
set_option maxHeartbeats 40000000 in
theorem comes_1 {Post : Tables → Env → Array Value → State → Outcome → State → Prop} (hpost : ∀ tb e args s v u, (limb_1_1.after args s (.returned v) u = true ∧ limb_1_2.after args s (.returned v) u = true ∧ True) → FrameEnd s (.returned v) u (Jvm.fieldLocs frame_1_writes args s ++ Jvm.arrayLocs frame_1_arrays args s ++ Jvm.staticLocs frame_1_statics s) 0 0 → Post tb e args s (.returned v) u) :
    ArmFor flags0 classFile x code maxLocals ret World_1 tables_1 room_1 Calls_1 rest_1 Pre_1 Post := by
  intro l hfl _ _ p e ha hc hk s m args below hf hA hF happ hP
  obtain ⟨hcalls, hrest, hpre⟩ := hP
  obtain ⟨-, -, -, hnamed, -, -, -, hat⟩ := (Spec.applies_iff hf).mp happ
  obtain ⟨hg, hn⟩ := and_e (Cond.before_iff.mp (show (Jvm.Cond.and given_1 narrow_1).before args s = true from hpre))
  obtain ⟨g1, g2⟩ := and_e hg
  obtain ⟨g3, g4⟩ := and_e g2
  obtain ⟨w0, w1, rfl⟩ : ∃ w0 w1 : Value, args = #[w0, w1] := by
    have hs : args.size = 2 := by simpa [Cond.value, given_1] using g1
    obtain ⟨L⟩ := args
    match L, hs with
    | [w0, w1], _ => exact ⟨w0, w1, rfl⟩
  have hw := fun d (hd : d ∈ tables_1) => atoms_spec (ws := Jvm.Cond.code x code maxLocals ret :: tables_1) hat d (List.mem_cons_of_mem _ hd)
  have hfit : Fit s := fun {y c} hc i hi => by
    obtain ⟨ha, rfl⟩ := Array.getElem?_eq_some_iff.mp hc
    have q := List.all_eq_true.mp ((Array.all_eq_true_iff_forall_mem.mp hF) _ (Array.getElem_mem ha)) i (List.mem_range.mpr hi)
    simpa [Array.getElem?_eq_getElem hi] using q
  obtain ⟨i0, ei0⟩ := is_v g3
  obtain rfl : w0 = (.int i0) := Option.some.inj ei0
  obtain ⟨i1, ei1⟩ := is_v g4
  obtain rfl : w1 = (.int i1) := Option.some.inj ei1
  obtain ⟨n, o, h1, h2, h3, _, L, rfl, ⟨hv, N⟩, hq⟩ := rm0 l s _ hw tables_1 i0 i1 s.heap s.heap.size (Nat.le_refl _)  p e ha hc hk s m _ below hf ((Spec.applies_iff_loose hf).mp happ).1 ⟨rfl, State.Warmed39.refl s, rfl⟩ trivial
  rw [show (nar .boolean (own_j0_76_0 i0 i1)) = 1 from own_law i0 i1] at hv
  subst hv
  refine ⟨n, _, h1, h2, h3, hpost _ _ _ _ _ _ ⟨Cond.after_iff.mpr rfl, Cond.after_iff.mpr (eq_i res_at (Term.int_eval (1)) rfl), trivial⟩ ⟨hq.1, hq.2.1, (hq.2.2.sift fun y hy => Or.inr (N y hy)).mono (by decide) (by decide)⟩⟩
theorem main_1_1 : Claimed_1_1 := comes_1 fun _ _ _ _ _ _ h hF => ⟨h.1, hF⟩
theorem main_1_2 : Claimed_1_2 := comes_1 fun _ _ _ _ _ _ h hF => ⟨h.2.1, hF⟩
end Jvm.Pilot.@@N@@
namespace Jvm.Pilot.@@N@@
open Jvm Jvm.ClassFile Sem Op Lib Jvm.Free Jvm.Stand Jvm.Pilot.@@N@@.Jvm.D
/-! MADE BY PROGRAM (witnessworld.py) out of the Statement's table words and the real class files: 9 classes; the members and pool entries that the words name. The judged class is class 1, her method 1. -/
namespace start1
open Jvm.ClassFile
def u (s : String) : CpInfo := .utf8 (stringToUtf16 s)
/-- a pool by its gaps: so many unusable entries, then the entry; so many at the end -/
def gap : Nat → List CpInfo → List CpInfo
  | 0, r => r
  | n + 1, r => .unusable :: gap n r
def poolList (es : List (Nat × CpInfo)) (last : Nat) : List CpInfo := es.foldr (fun e r => gap e.1 (e.2 :: r)) (gap last [])
def pool (es : List (Nat × CpInfo)) (last : Nat) : Array CpInfo := ⟨poolList es last⟩
def fileOf (pool : Array CpInfo) (this : Nat) (attrs : Array Attribute := #[]) (ms : Array MethodInfo := #[]) (fl : Nat := 33) (sup : Nat := 0) (ifs : Array Nat := #[]) (fds : Array FieldInfo := #[]) : ClassFile where
  minorVersion := 0
  majorVersion := 65
  constantPool := pool
  accessFlags := fl
  thisClass := this
  superClass := sup
  interfaces := ifs
  fields := fds
  methods := ms
  attributes := attrs
def plain (name : String) (sup : Option ClassId) : Class where
  name := name
  kind := .ordinary
  loader := none
  accessFlags := 33
  super := sup
  interfaces := #[]
  cf := none
  fields := #[]
  methods := #[]
  instanceTypes := #[]
  staticTypes := #[]
  resolved := #[]
  callSites := []
  init := .initialized
  statics := none
  mirror := none

def pool0 : Array CpInfo := pool [(5, u "<init>"), (0, u "()V"), (1, .class_ 10), (1, u "java/lang/Object")] 113

def k0m0 : Method := { name := "<init>", desc := "()V", sig := { parameters := [], returnType := none }, accessFlags := 1, code := none }
/-- java/lang/Object -/
def k0 : Class := { plain "java/lang/Object" none with
  accessFlags := 33
  interfaces := #[]
  cf := some (fileOf pool0 8 #[] #[{ accessFlags := 1, nameIndex := 5, descriptorIndex := 6, attributes := #[] }] 33 0 #[] #[])
  fields := #[]
  methods := #[k0m0]
  instanceTypes := #[]
  staticTypes := #[]
  resolved := Array.replicate 124 none
  statics := none }

def pool1 : Array CpInfo := pool [(2, .class_ 4), (1, u "java/lang/Object"), (0, u "<init>"), (0, u "()V"), (0, .integer 2147483647), (0, .long 1000000000000000), (1, .long 301029995663981), (1, .long 18446619134972943316), (1, .methodref 15 16), (0, .class_ 17), (0, .nameAndType 18 19), (0, u "com/example/terseform/terseform/codec/ShortestDecimalFloorLog10OfWidthPinLaw"), (0, u "floorDiv"), (0, u "(JJ)J"), (0, .methodref 21 22), (0, .class_ 23), (0, .nameAndType 24 25), (0, u "com/example/terseform/terseform/codec/ShortestDecimal"), (0, u "floorLog10OfWidth"), (0, u "(IZ)I"), (2, u "law"), (0, u "(II)Z")] 3

def k1m0 : Method := { name := "<init>", desc := "()V", sig := { parameters := [], returnType := none }, accessFlags := 1, code := none }
def k1c1 : Code := { maxStack := 4, maxLocals := 14, code := code, exceptionTable := #[], attributes := #[] }
def k1m1 : Method := { name := "law", desc := "(II)Z", sig := { parameters := [.int, .int], returnType := some .boolean }, accessFlags := 9, code := some k1c1 }
def k1c2 : Code := { maxStack := 4, maxLocals := 4, code := method_3_code, exceptionTable := #[], attributes := #[] }
def k1m2 : Method := { name := "floorDiv", desc := "(JJ)J", sig := { parameters := [.long, .long], returnType := some .long }, accessFlags := 10, code := some k1c2 }
/-- com/example/terseform/terseform/codec/ShortestDecimalFloorLog10OfWidthPinLaw -/
def k1 : Class := { plain "com/example/terseform/terseform/codec/ShortestDecimalFloorLog10OfWidthPinLaw" (some 0) with
  accessFlags := 49
  interfaces := #[]
  cf := some (fileOf pool1 15 #[] #[{ accessFlags := 1, nameIndex := 5, descriptorIndex := 6, attributes := #[] }, { accessFlags := 9, nameIndex := 28, descriptorIndex := 29, attributes := #[] }, { accessFlags := 10, nameIndex := 18, descriptorIndex := 19, attributes := #[] }] 49 2 #[] #[])
  fields := #[]
  methods := #[k1m0, k1m1, k1m2]
  instanceTypes := #[]
  staticTypes := #[]
  resolved := Array.replicate 33 none
  statics := none }

def pool2 : Array CpInfo := pool [(2, .class_ 4), (1, u "java/lang/Object"), (3, .class_ 10), (1, u "com/example/terseform/terseform/codec/ShortestDecimal"), (0, u "significand"), (0, u "J"), (2, u "exponent"), (0, u "I"), (25, u "floorLog10OfWidth"), (0, u "(IZ)I"), (31, .integer 1262611), (0, .integer 4294443264), (2, u "POWERS"), (0, u "Ljava/util/concurrent/atomic/AtomicReferenceArray;"), (7, u "[J"), (62, u "FIVES"), (16, u "EXACT_QUARTER"), (0, u "Ljava/math/BigDecimal;"), (2, u "EXACT_HALF"), (75, u "FRACTION_BITS"), (1, u "MIN_K"), (1, u "MAX_K"), (3, u "WHOLE"), (1, u "BELOW_HALF"), (1, u "HALF"), (1, u "ABOVE_HALF"), (1, u "UNDECIDED")] 29

def k2c0 : Code := { maxStack := 2, maxLocals := 2, code := prog_37_method_4_code, exceptionTable := #[], attributes := #[] }
def k2m0 : Method := { name := "floorLog10OfWidth", desc := "(IZ)I", sig := { parameters := [.int, .boolean], returnType := some .int }, accessFlags := 8, code := some k2c0 }
/-- com/example/terseform/terseform/codec/ShortestDecimal -/
def k2 : Class := { plain "com/example/terseform/terseform/codec/ShortestDecimal" (some 0) with
  accessFlags := 48
  interfaces := #[]
  cf := some (fileOf pool2 8 #[] #[{ accessFlags := 8, nameIndex := 42, descriptorIndex := 43, attributes := #[] }] 48 2 #[] #[{ accessFlags := 26, nameIndex := 248, descriptorIndex := 12, attributes := #[] }, { accessFlags := 26, nameIndex := 250, descriptorIndex := 16, attributes := #[] }, { accessFlags := 26, nameIndex := 252, descriptorIndex := 16, attributes := #[] }, { accessFlags := 26, nameIndex := 79, descriptorIndex := 80, attributes := #[] }, { accessFlags := 26, nameIndex := 151, descriptorIndex := 88, attributes := #[] }, { accessFlags := 26, nameIndex := 256, descriptorIndex := 16, attributes := #[] }, { accessFlags := 26, nameIndex := 258, descriptorIndex := 16, attributes := #[] }, { accessFlags := 26, nameIndex := 260, descriptorIndex := 16, attributes := #[] }, { accessFlags := 26, nameIndex := 262, descriptorIndex := 16, attributes := #[] }, { accessFlags := 26, nameIndex := 264, descriptorIndex := 16, attributes := #[] }, { accessFlags := 26, nameIndex := 172, descriptorIndex := 169, attributes := #[] }, { accessFlags := 26, nameIndex := 168, descriptorIndex := 169, attributes := #[] }, { accessFlags := 18, nameIndex := 11, descriptorIndex := 12, attributes := #[] }, { accessFlags := 18, nameIndex := 15, descriptorIndex := 16, attributes := #[] }])
  fields := #[{ name := "FRACTION_BITS", type := .long, accessFlags := 26, slot := 0, constantValue := 0 }, { name := "MIN_K", type := .int, accessFlags := 26, slot := 1, constantValue := 0 }, { name := "MAX_K", type := .int, accessFlags := 26, slot := 2, constantValue := 0 }, { name := "POWERS", type := (.object "java/util/concurrent/atomic/AtomicReferenceArray"), accessFlags := 26, slot := 3, constantValue := 0 }, { name := "FIVES", type := (.array .long), accessFlags := 26, slot := 4, constantValue := 0 }, { name := "WHOLE", type := .int, accessFlags := 26, slot := 5, constantValue := 0 }, { name := "BELOW_HALF", type := .int, accessFlags := 26, slot := 6, constantValue := 0 }, { name := "HALF", type := .int, accessFlags := 26, slot := 7, constantValue := 0 }, { name := "ABOVE_HALF", type := .int, accessFlags := 26, slot := 8, constantValue := 0 }, { name := "UNDECIDED", type := .int, accessFlags := 26, slot := 9, constantValue := 0 }, { name := "EXACT_HALF", type := (.object "java/math/BigDecimal"), accessFlags := 26, slot := 10, constantValue := 0 }, { name := "EXACT_QUARTER", type := (.object "java/math/BigDecimal"), accessFlags := 26, slot := 11, constantValue := 0 }, { name := "significand", type := .long, accessFlags := 18, slot := 0, constantValue := 0 }, { name := "exponent", type := .int, accessFlags := 18, slot := 1, constantValue := 0 }]
  methods := #[k2m0]
  instanceTypes := #[.long, .int]
  staticTypes := #[.long, .int, .int, (.object "java/util/concurrent/atomic/AtomicReferenceArray"), (.array .long), .int, .int, .int, .int, .int, (.object "java/math/BigDecimal"), (.object "java/math/BigDecimal")]
  resolved := Array.replicate 294 none
  statics := none }

def pool3 : Array CpInfo := pool [(1, u "java/lang/Cloneable"), (0, .class_ 1), (0, u "java/lang/Object"), (0, .class_ 3)] 3

/-- java/lang/Cloneable -/
def k3 : Class := { plain "java/lang/Cloneable" (some 0) with
  accessFlags := 1537
  interfaces := #[]
  cf := some (fileOf pool3 2 #[] #[] 1537 4 #[] #[])
  fields := #[]
  methods := #[]
  instanceTypes := #[]
  staticTypes := #[]
  resolved := Array.replicate 8 none
  statics := none }

def pool4 : Array CpInfo := pool [(1, u "java/io/Serializable"), (0, .class_ 1), (0, u "java/lang/Object"), (0, .class_ 3)] 3

/-- java/io/Serializable -/
def k4 : Class := { plain "java/io/Serializable" (some 0) with
  accessFlags := 1537
  interfaces := #[]
  cf := some (fileOf pool4 2 #[] #[] 1537 4 #[] #[])
  fields := #[]
  methods := #[]
  instanceTypes := #[]
  staticTypes := #[]
  resolved := Array.replicate 8 none
  statics := none }

/-- the primitive byte -/
def k5 : Class := { plain "byte" none with kind := .primitive 'B', accessFlags := 0x411 }
/-- [B -/
def k6 : Class := { plain "[B" (some 0) with kind := .array 5 .byte, interfaces := #[3, 4], accessFlags := 1041 }

/-- the primitive int -/
def k7 : Class := { plain "int" none with kind := .primitive 'I', accessFlags := 0x411 }
/-- [I -/
def k8 : Class := { plain "[I" (some 0) with kind := .array 7 .int, interfaces := #[3, 4], accessFlags := 1041 }

def heap : Heap := #[]
def classes : Array Class := #[k0, k1, k2, k3, k4, k5, k6, k7, k8]
def interned : List (Array UInt16 × Addr) := []
def slotsUsed : Nat := 0
def theMethod : MethodId := ⟨1, 1⟩
def args0 : Array Value := #[.int 5, .int 6]
def aboutOver (below : List Frame) : State where
  vm := { classes := classes, interned := interned.toArray }
  heap := heap
  slotsUsed := slotsUsed
  threads := #[{ frames := .invoking theMethod args0 :: below }]
def below0 : List Frame := [.native { method := ⟨0, 0⟩, args := #[] }]
def about1 : State := aboutOver below0
def p0 : Program := .bare "" "" ""
def e0 : Env := launch0.env 0 0 0
theorem w_frames : about1.frames = Frame.invoking theMethod args0 :: below0 := rfl
set_option maxRecDepth 65536 in
theorem w_args : argsFit about1.vm theMethod args0 = true := by decide +kernel
set_option maxRecDepth 65536 in
theorem w_heap : heapFits about1 = true := by decide +kernel
set_option maxRecDepth 65536 in
theorem w_runnable : about1.curStatus? = some .runnable := by decide +kernel
set_option maxRecDepth 65536 in
theorem w_alone : about1.alone = true := by decide +kernel
set_option maxRecDepth 65536 in
theorem w_named : about1.methodNamed? x = some theMethod := by decide +kernel
set_option maxRecDepth 65536 in
theorem w_hears : about1.hears theMethod below0 = true := by decide +kernel
set_option maxRecDepth 65536 in
theorem w_ripe : about1.ripe theMethod args0 below0 = true := by decide +kernel
theorem w_running : about1.status = .running := rfl
set_option maxRecDepth 65536 in
theorem w_room : about1.hasRoom e0.platform room_1 = true :=
  launch0.hasRoom_least _ room_1 (by decide +kernel) (by decide +kernel) (by decide +kernel) (by decide +kernel) (by decide +kernel) (by decide +kernel)
theorem allAtoms_all (ts : List Jvm.Cond) (a : Array Jvm.Value) (st : Jvm.State) : (allAtoms ts).before a st = ts.all (fun c => c.before a st) := by
  induction ts with
  | nil => rfl
  | cons c t ih =>
    show (Jvm.Cond.and c (allAtoms t)).before a st = _
    rw [Jvm.Cond.before_and, ih, List.all_cons]
def words1 : List Jvm.Cond := Jvm.Cond.code x code maxLocals ret :: tables_1
/-- a 'code' word, met by the world's own term for the bytes: nothing is compared byte by byte -/
theorem code_word {y : MethodName} {bytes : ByteArray} {mx : Nat} {rt : Option FieldType} {a : Array Value} {s : State} {m : MethodId} {meth : Method} {c : Code} (h1 : s.methodNamed? y = some m) (h2 : s.vm.method? m = some meth) (h3 : meth.code = some c) (h4 : c.code = bytes)
    (h5 : (c.maxLocals == mx && c.exceptionTable.isEmpty && decide (c.maxStack ≤ mostOperands) && decide (meth.sig.returnType = rt) && !meth.locks && decide (parseMethodDescriptor y.desc = some meth.sig)) = true) : (Jvm.Cond.code y bytes mx rt).before a s = true := by
  simp only [Bool.and_eq_true, beq_iff_eq, Bool.not_eq_true', decide_eq_true_eq] at h5
  obtain ⟨⟨⟨⟨⟨g1, g2⟩, g3⟩, g4⟩, g5⟩, g6⟩ := h5
  simp [Cond.before, Cond.holds, Cond.value, h1, h2, h3, h4, g1, g2, g3, g4, g5, g6]
def isCode : Jvm.Cond → Bool
  | .code _ _ _ _ => true
  | _ => false
theorem all_split {L : List Jvm.Cond} {P : Jvm.Cond → Bool} (h1 : L.all (fun c => isCode c || P c) = true) (h2 : ∀ c ∈ L.filter isCode, P c = true) : L.all P = true := by
  refine List.all_eq_true.mpr fun c hc => ?_
  have h := List.all_eq_true.mp h1 c hc
  rcases Bool.eq_false_or_eq_true (isCode c) with hi | hi
  · exact h2 c (List.mem_filter.mpr ⟨hc, hi⟩)
  · simpa [hi] using h
set_option maxRecDepth 65536 in
theorem w_c0 : (Jvm.Cond.code x code maxLocals ret).before args0 about1 = true := code_word (m := ⟨1, 1⟩) (meth := k1m1) (c := k1c1) (by decide +kernel) rfl rfl rfl (by decide +kernel)
set_option maxRecDepth 65536 in
theorem w_c1 : (Jvm.Cond.code ({ cls := "com/example/terseform/terseform/codec/ShortestDecimalFloorLog10OfWidthPinLaw", name := "floorDiv", desc := "(JJ)J" } : Jvm.MethodName) method_3_code (4 : Nat) (Option.some Jvm.ClassFile.FieldType.long)).before args0 about1 = true := code_word (m := ⟨1, 2⟩) (meth := k1m2) (c := k1c2) (by decide +kernel) rfl rfl rfl (by decide +kernel)
set_option maxRecDepth 65536 in
theorem w_c2 : (Jvm.Cond.code ({ cls := "com/example/terseform/terseform/codec/ShortestDecimal", name := "floorLog10OfWidth", desc := "(IZ)I" } : Jvm.MethodName) prog_37_method_4_code (2 : Nat) (Option.some Jvm.ClassFile.FieldType.int)).before args0 about1 = true := code_word (m := ⟨2, 0⟩) (meth := k2m0) (c := k2c0) (by decide +kernel) rfl rfl rfl (by decide +kernel)
def codes1 : List Jvm.Cond := [Jvm.Cond.code x code maxLocals ret, Jvm.Cond.code ({ cls := "com/example/terseform/terseform/codec/ShortestDecimalFloorLog10OfWidthPinLaw", name := "floorDiv", desc := "(JJ)J" } : Jvm.MethodName) method_3_code (4 : Nat) (Option.some Jvm.ClassFile.FieldType.long), Jvm.Cond.code ({ cls := "com/example/terseform/terseform/codec/ShortestDecimal", name := "floorLog10OfWidth", desc := "(IZ)I" } : Jvm.MethodName) prog_37_method_4_code (2 : Nat) (Option.some Jvm.ClassFile.FieldType.int)]
set_option maxRecDepth 65536 in
theorem codes_eq : words1.filter isCode = codes1 := rfl
theorem w_codes : ∀ c ∈ words1.filter isCode, c.before args0 about1 = true := by
  rw [codes_eq]
  intro c hc
  simp only [codes1, List.mem_cons, List.not_mem_nil, or_false] at hc
  rcases hc with rfl | rfl | rfl
  · exact w_c0
  · exact w_c1
  · exact w_c2
set_option maxRecDepth 65536 in
theorem w_t1 : words1.all (fun c => isCode c || c.before args0 about1) = true := by decide +kernel
theorem w_tables : (allAtoms (Jvm.Cond.code x code maxLocals ret :: tables_1)).before args0 about1 = true := by
  rw [allAtoms_all]
  show words1.all (fun c => c.before args0 about1) = true
  refine all_split ?_ w_codes
  rw [w_t1]
set_option maxRecDepth 65536 in
theorem w_case : (Jvm.Cond.and given_1 narrow_1).before args0 about1 = true := by decide +kernel
theorem w_applies : (headSpec (Jvm.Cond.code x code maxLocals ret :: tables_1) room_1).applies x e0.platform about1 = true :=
  (Spec.applies_iff w_frames).mpr ⟨w_running, w_runnable, w_alone, w_named, w_hears, w_ripe, w_room, w_tables⟩
theorem atStart : AtStart classFile x code maxLocals ret World_1 tables_1 room_1 Calls_1 rest_1 Pre_1 launch0 p0 e0 about1 theMethod args0 below0 :=
  ⟨lists_1, trivial, launch0.admits_env _ _ _, launch0.least_env, fairChoices_fair.cas, fairChoices_fair.clock, w_frames, w_args, w_heap, w_applies, trivial, trivial, w_case⟩
end start1
theorem witness_1 : WitnessClaimed_1 := ⟨start1.p0, start1.e0, start1.about1, start1.theMethod, start1.args0, start1.below0, start1.atStart⟩
end Jvm.Pilot.@@N@@
