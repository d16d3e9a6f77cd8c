import JvmDerived
import JvmDerived.Pilot.@@N@@Statement
import JvmDerived.Pilot.@@N@@Code
set_option linter.unusedVariables false
set_option linter.unusedSimpArgs false
namespace Jvm.RoadKit
open Sem ClassFile Op Lib Jvm.Stand Jvm.Free Jvm.LawKit
section New
variable {p : Program} {l : Launch} {e : Env} {R : Room} {s : State} {m : MethodId} {args : Array Value} {below : List Frame} {meth : Method} {c : Code} {T : State} {locs : List Loc} {cells slots : Nat}
theorem retI (X : Stand p l e R s m args below meth c T locs cells slots) (hx : p.tables.exec = Jvm.exec) {pc : Nat} {Ls : Array Slot} {z : Int32} {rest : List Value} (hret : meth.sig.returnType = some .int) (hd : decode c.code pc = .ok (.ireturn, 1)) {fs : List Frame}
    (hl : ∀ (f : JFrame) (acts : List Action), f.method = m → f.locked = none → f.entered = [] → (doReturn e (T.setTop f) acts (some (.int z))).1 = T.setFrames fs) : Steps p.tables e below (T.setTop (mkF m pc Ls (.int z :: rest))) (T.setFrames fs) := by
  have hm' : T.vm.method? m = some meth := X.method'
  have hn : narrow .int (.int z) = .int z := rfl
  show Steps p.tables e below (T.setTop { method := m, pc := pc, locals := Ls, stack := _ :: rest, locked := none }) _
  jvm_step X.here [X.here.top, hx, hd, hm', hret, hn]
  first | (intro acts; rw [hl _ acts rfl rfl rfl]) | rw [hl _ _ rfl rfl rfl]
  exact Steps.refl _
end New
end Jvm.RoadKit
namespace Jvm.Pilot.@@N@@
open Jvm Jvm.ClassFile Sem Op Lib Jvm.Free Jvm.Stand Jvm.LawKit Jvm.RoadKit Bundle Jvm.Pilot.@@N@@.Jvm.D
theorem d1_0 : decode prog_152_method_2_code 0 = .ok (.iload_n 0, 1) := by decide +kernel
theorem d1_1 : decode prog_152_method_2_code 1 = .ok (.bipush 32, 2) := by decide +kernel
theorem d1_3 : decode prog_152_method_2_code 3 = .ok (.if_icmp .eq 21, 3) := by decide +kernel
theorem d1_6 : decode prog_152_method_2_code 6 = .ok (.iload_n 0, 1) := by decide +kernel
theorem d1_7 : decode prog_152_method_2_code 7 = .ok (.bipush 9, 2) := by decide +kernel
theorem d1_9 : decode prog_152_method_2_code 9 = .ok (.if_icmp .eq 15, 3) := by decide +kernel
theorem d1_12 : decode prog_152_method_2_code 12 = .ok (.iload_n 0, 1) := by decide +kernel
theorem d1_13 : decode prog_152_method_2_code 13 = .ok (.bipush 13, 2) := by decide +kernel
theorem d1_15 : decode prog_152_method_2_code 15 = .ok (.if_icmp .eq 9, 3) := by decide +kernel
theorem d1_18 : decode prog_152_method_2_code 18 = .ok (.iload_n 0, 1) := by decide +kernel
theorem d1_19 : decode prog_152_method_2_code 19 = .ok (.bipush 10, 2) := by decide +kernel
theorem d1_21 : decode prog_152_method_2_code 21 = .ok (.if_icmp .ne 7, 3) := by decide +kernel
theorem d1_24 : decode prog_152_method_2_code 24 = .ok (.iconst 1, 1) := by decide +kernel
theorem d1_25 : decode prog_152_method_2_code 25 = .ok (.goto 4, 3) := by decide +kernel
theorem d1_28 : decode prog_152_method_2_code 28 = .ok (.iconst 0, 1) := by decide +kernel
theorem d1_29 : decode prog_152_method_2_code 29 = .ok (.ireturn, 1) := by decide +kernel
theorem pn_0 : plainName "com/example/aschenputtel/aschenputtel/values/TrimmableText" = true := by first | (simp [plainName, overriddenIn]; done) | decide +kernel
theorem pn_1 : plainName "com/example/aschenputtel/aschenputtel/values/TrimmableTextIsWhitespacePinLaw" = true := by first | (simp [plainName, overriddenIn]; done) | decide +kernel
theorem pd_0 : parseMethodDescriptor "(C)Z" = some ⟨[.char], some .boolean⟩ := by decide +kernel
theorem own_fin {c : Int32} {n : Nat} (h0 : 0 ≤ c.toInt) (h1 : c.toInt < n) : ∃ k, k < n ∧ c = k.toInt32 := by
  have hn : ¬ c < 0 := by
    rw [Int32.lt_iff_toInt_lt]
    show ¬ c.toInt < 0
    omega
  exact ⟨c.toNatClampNeg, by have := nat_of hn; omega, (back32 hn).1.symm⟩
def own_j1_3_0 (i1 : Int32) : Int32 := (if i1 = (32 : Int32) then (1 : Int32) else (if i1 = (9 : Int32) then (1 : Int32) else (if i1 = (13 : Int32) then (1 : Int32) else (if i1 = (10 : Int32) then (1 : Int32) else (0 : Int32)))))
def Q1 (Z : State) (i1 : Int32) (h0 : Heap) (n0 : Nat) (v : Option Value) (h : Heap) (L : List Loc) : Prop := v = some (.int (nar .boolean (own_j1_3_0 i1))) ∧ Fr n0 L ∧ h = h0
theorem ef_1 (m : MethodId) (x0 : Int32) : entryFrame m #[(.int x0)] 1 = mkF m 0 #[.val (.int x0)] [] := by first | (simp [entryFrame, mkF, argsToLocals, Value.category]; done) | rfl
set_option maxRecDepth 65536 in
set_option maxHeartbeats 40000000 in
theorem rm1 (l : Launch) (Z : State) (a0 : Array Value) (hw : ∀ d ∈ tables_1, d.before a0 Z = true) (ws : List Jvm.Cond) (i1 : Int32) (h0 : Heap) (n0 : Nat) (Z0 : n0 ≤ h0.size) :
    MetFree l (⟨"com/example/aschenputtel/aschenputtel/values/TrimmableText", "isWhitespace", "(C)Z"⟩ : MethodName) (head1 (Jvm.Cond.code (⟨"com/example/aschenputtel/aschenputtel/values/TrimmableText", "isWhitespace", "(C)Z"⟩ : MethodName) prog_152_method_2_code 1 (some .boolean) :: ws) ({ frames := 0, cells := 0, slots := 0, locals := 0 } : Room)) (fun a U => a = #[(.int i1)] ∧ Z.Warmed39 U.vm ∧ U.heap = h0) (fun _ _ _ _ _ => True) (fun _ U o U' => ∃ v L, o = .returned v ∧ Q1 Z i1 h0 n0 v U'.heap L ∧ FrameEnd U o U' L ({ frames := 0, cells := 0, slots := 0, locals := 0 } : Room).cells ({ frames := 0, cells := 0, slots := 0, locals := 0 } : Room).slots) := by
  refine MetFree.of_bodySF (plainFor_of_name pn_0) hisR ?_
  intro p e s m args below meth c s₁ Bd hml0 hP hK
  obtain ⟨rfl, hZ, hh⟩ := hP
  have hx := Bd.exec
  have hby := Bd.bytes
  have hml : c.maxLocals = 1 := hml0
  have hown : s.vm.findClass "com/example/aschenputtel/aschenputtel/values/TrimmableText" = some m.cls := findClass_of_methodNamed Bd.named
  have hnm := (name_of_methodNamed Bd.named Bd.method).1
  have X0 : Stand p l e ({ frames := 0, cells := 0, slots := 0, locals := 0 } : Room) s m #[(.int i1)] below meth c s₁ [] 0 0 := Stand.of_body Bd
  have e0 : s₁.heap = h0 := by rw [← hh, Bd.state]; rfl
  have N0 := Fr.nil n0
  have pre0 : ∀ t, Steps p.tables e below (s₁.setTop (mkF m 0 #[.val (.int i1)] [])) t → Steps p.tables e below (s₁.setTop (entryFrame m #[(.int i1)] 1)) t := fun t k => castTop (ef_1 m i1) k
  have pre1 : ∀ t, Steps p.tables e below (s₁.setTop (mkF m 3 #[.val (.int i1)] [(.int (32 : Int32)), (.int i1)])) t → Steps p.tables e below (s₁.setTop (entryFrame m #[(.int i1)] 1)) t := by
    intro t k
    refine pre0 _ ?_
    show Steps p.tables e below (s₁.setTop (mkF m 0 #[.val (.int i1)] [])) _
    refine XS.iloadN X0.here hx rfl (hb hby d1_0) rfl ?_
    show Steps p.tables e below (s₁.setTop (mkF m 1 #[.val (.int i1)] [(.int i1)])) _
    refine XS.bipush X0.here hx rfl (hb hby d1_1) ?_
    exact k
  have pre14 : ∀ t, Steps p.tables e below (s₁.setTop (mkF m 29 #[.val (.int i1)] [(.int (own_j1_3_0 i1))])) t → Steps p.tables e below (s₁.setTop (entryFrame m #[(.int i1)] 1)) t := by
    by_cases hc3_2 : i1 = (32 : Int32)
    · have pre3 : ∀ t, Steps p.tables e below (s₁.setTop (mkF m 29 #[.val (.int i1)] [(.int (1 : Int32))])) t → Steps p.tables e below (s₁.setTop (entryFrame m #[(.int i1)] 1)) t := by
        intro t k
        refine pre1 _ ?_
        show Steps p.tables e below (s₁.setTop (mkF m 3 #[.val (.int i1)] [(.int (32 : Int32)), (.int i1)])) _
        refine XS.icmpYes X0.here hx rfl (pc0 := 3) (pc' := 24) rfl (hb hby d1_3) rfl (teq hc3_2).1 (by decide) (by decide) ?_
        show Steps p.tables e below (s₁.setTop (mkF m 24 #[.val (.int i1)] [])) _
        refine XS.iconst X0.here hx rfl (hb hby d1_24) ?_
        show Steps p.tables e below (s₁.setTop (mkF m 25 #[.val (.int i1)] [(.int (1 : Int32))])) _
        refine XS.goto X0.here hx rfl (pc0 := 25) (pc' := 29) rfl (hb hby d1_25) (by decide) (by decide) ?_
        exact k
      exact fun t k => pre3 t (by rw [show (own_j1_3_0 i1) = (1 : Int32) from (if_pos hc3_2)] at k; exact k)
    · have pre4 : ∀ t, Steps p.tables e below (s₁.setTop (mkF m 9 #[.val (.int i1)] [(.int (9 : Int32)), (.int i1)])) t → Steps p.tables e below (s₁.setTop (entryFrame m #[(.int i1)] 1)) t := by
        intro t k
        refine pre1 _ ?_
        show Steps p.tables e below (s₁.setTop (mkF m 3 #[.val (.int i1)] [(.int (32 : Int32)), (.int i1)])) _
        refine XS.icmpNo X0.here hx rfl (hb hby d1_3) rfl (feq hc3_2).1 ?_
        show Steps p.tables e below (s₁.setTop (mkF m 6 #[.val (.int i1)] [])) _
        refine XS.iloadN X0.here hx rfl (hb hby d1_6) rfl ?_
        show Steps p.tables e below (s₁.setTop (mkF m 7 #[.val (.int i1)] [(.int i1)])) _
        refine XS.bipush X0.here hx rfl (hb hby d1_7) ?_
        exact k
      by_cases hc9_5 : i1 = (9 : Int32)
      · have pre6 : ∀ t, Steps p.tables e below (s₁.setTop (mkF m 29 #[.val (.int i1)] [(.int (1 : Int32))])) t → Steps p.tables e below (s₁.setTop (entryFrame m #[(.int i1)] 1)) t := by
          intro t k
          refine pre4 _ ?_
          show Steps p.tables e below (s₁.setTop (mkF m 9 #[.val (.int i1)] [(.int (9 : Int32)), (.int i1)])) _
          refine XS.icmpYes X0.here hx rfl (pc0 := 9) (pc' := 24) rfl (hb hby d1_9) rfl (teq hc9_5).1 (by decide) (by decide) ?_
          show Steps p.tables e below (s₁.setTop (mkF m 24 #[.val (.int i1)] [])) _
          refine XS.iconst X0.here hx rfl (hb hby d1_24) ?_
          show Steps p.tables e below (s₁.setTop (mkF m 25 #[.val (.int i1)] [(.int (1 : Int32))])) _
          refine XS.goto X0.here hx rfl (pc0 := 25) (pc' := 29) rfl (hb hby d1_25) (by decide) (by decide) ?_
          exact k
        exact fun t k => pre6 t (by rw [show (own_j1_3_0 i1) = (1 : Int32) from ((if_neg hc3_2).trans (if_pos hc9_5))] at k; exact k)
      · have pre7 : ∀ t, Steps p.tables e below (s₁.setTop (mkF m 15 #[.val (.int i1)] [(.int (13 : Int32)), (.int i1)])) t → Steps p.tables e below (s₁.setTop (entryFrame m #[(.int i1)] 1)) t := by
          intro t k
          refine pre4 _ ?_
          show Steps p.tables e below (s₁.setTop (mkF m 9 #[.val (.int i1)] [(.int (9 : Int32)), (.int i1)])) _
          refine XS.icmpNo X0.here hx rfl (hb hby d1_9) rfl (feq hc9_5).1 ?_
          show Steps p.tables e below (s₁.setTop (mkF m 12 #[.val (.int i1)] [])) _
          refine XS.iloadN X0.here hx rfl (hb hby d1_12) rfl ?_
          show Steps p.tables e below (s₁.setTop (mkF m 13 #[.val (.int i1)] [(.int i1)])) _
          refine XS.bipush X0.here hx rfl (hb hby d1_13) ?_
          exact k
        by_cases hc15_8 : i1 = (13 : Int32)
        · have pre9 : ∀ t, Steps p.tables e below (s₁.setTop (mkF m 29 #[.val (.int i1)] [(.int (1 : Int32))])) t → Steps p.tables e below (s₁.setTop (entryFrame m #[(.int i1)] 1)) t := by
            intro t k
            refine pre7 _ ?_
            show Steps p.tables e below (s₁.setTop (mkF m 15 #[.val (.int i1)] [(.int (13 : Int32)), (.int i1)])) _
            refine XS.icmpYes X0.here hx rfl (pc0 := 15) (pc' := 24) rfl (hb hby d1_15) rfl (teq hc15_8).1 (by decide) (by decide) ?_
            show Steps p.tables e below (s₁.setTop (mkF m 24 #[.val (.int i1)] [])) _
            refine XS.iconst X0.here hx rfl (hb hby d1_24) ?_
            show Steps p.tables e below (s₁.setTop (mkF m 25 #[.val (.int i1)] [(.int (1 : Int32))])) _
            refine XS.goto X0.here hx rfl (pc0 := 25) (pc' := 29) rfl (hb hby d1_25) (by decide) (by decide) ?_
            exact k
          exact fun t k => pre9 t (by rw [show (own_j1_3_0 i1) = (1 : Int32) from ((if_neg hc3_2).trans ((if_neg hc9_5).trans (if_pos hc15_8)))] at k; exact k)
        · have pre10 : ∀ t, Steps p.tables e below (s₁.setTop (mkF m 21 #[.val (.int i1)] [(.int (10 : Int32)), (.int i1)])) t → Steps p.tables e below (s₁.setTop (entryFrame m #[(.int i1)] 1)) t := by
            intro t k
            refine pre7 _ ?_
            show Steps p.tables e below (s₁.setTop (mkF m 15 #[.val (.int i1)] [(.int (13 : Int32)), (.int i1)])) _
            refine XS.icmpNo X0.here hx rfl (hb hby d1_15) rfl (feq hc15_8).1 ?_
            show Steps p.tables e below (s₁.setTop (mkF m 18 #[.val (.int i1)] [])) _
            refine XS.iloadN X0.here hx rfl (hb hby d1_18) rfl ?_
            show Steps p.tables e below (s₁.setTop (mkF m 19 #[.val (.int i1)] [(.int i1)])) _
            refine XS.bipush X0.here hx rfl (hb hby d1_19) ?_
            exact k
          by_cases hc21_11 : i1 = (10 : Int32)
          · have pre12 : ∀ t, Steps p.tables e below (s₁.setTop (mkF m 29 #[.val (.int i1)] [(.int (1 : Int32))])) t → Steps p.tables e below (s₁.setTop (entryFrame m #[(.int i1)] 1)) t := by
              intro t k
              refine pre10 _ ?_
              show Steps p.tables e below (s₁.setTop (mkF m 21 #[.val (.int i1)] [(.int (10 : Int32)), (.int i1)])) _
              refine XS.icmpNo X0.here hx rfl (hb hby d1_21) rfl (teq hc21_11).2 ?_
              show Steps p.tables e below (s₁.setTop (mkF m 24 #[.val (.int i1)] [])) _
              refine XS.iconst X0.here hx rfl (hb hby d1_24) ?_
              show Steps p.tables e below (s₁.setTop (mkF m 25 #[.val (.int i1)] [(.int (1 : Int32))])) _
              refine XS.goto X0.here hx rfl (pc0 := 25) (pc' := 29) rfl (hb hby d1_25) (by decide) (by decide) ?_
              exact k
            exact fun t k => pre12 t (by rw [show (own_j1_3_0 i1) = (1 : Int32) from ((if_neg hc3_2).trans ((if_neg hc9_5).trans ((if_neg hc15_8).trans (if_pos hc21_11))))] at k; exact k)
          · have pre13 : ∀ t, Steps p.tables e below (s₁.setTop (mkF m 29 #[.val (.int i1)] [(.int (0 : Int32))])) t → Steps p.tables e below (s₁.setTop (entryFrame m #[(.int i1)] 1)) t := by
              intro t k
              refine pre10 _ ?_
              show Steps p.tables e below (s₁.setTop (mkF m 21 #[.val (.int i1)] [(.int (10 : Int32)), (.int i1)])) _
              refine XS.icmpYes X0.here hx rfl (pc0 := 21) (pc' := 28) rfl (hb hby d1_21) rfl (feq hc21_11).2 (by decide) (by decide) ?_
              show Steps p.tables e below (s₁.setTop (mkF m 28 #[.val (.int i1)] [])) _
              refine XS.iconst X0.here hx rfl (hb hby d1_28) ?_
              exact k
            exact fun t k => pre13 t (by rw [show (own_j1_3_0 i1) = (0 : Int32) from ((if_neg hc3_2).trans ((if_neg hc9_5).trans ((if_neg hc15_8).trans (if_neg hc21_11))))] at k; exact k)
  obtain ⟨fs, hr, hrun, hended, hW, hsame⟩ := X0.leave (v := some (.int (nar .boolean (own_j1_3_0 i1)))) (fun h => by rw [Bd.returns] at h; cases h)
  refine ⟨_, _, pre14 _ ?_, hrun, hended, _, _, rfl, ?_, ⟨_, rfl⟩, hW, hsame.mono (by decide) (by decide)⟩
  · show Steps p.tables e below (s₁.setTop (mkF m 29 #[.val (.int i1)] [(.int (own_j1_3_0 i1))])) _
    exact retN X0 hx (t := .boolean) Bd.returns (by simp) (hb hby d1_29) hr
  · show Q1 Z i1 h0 n0 _ s₁.heap _
    rw [e0]
    exact ⟨rfl, N0, rfl⟩
def own_j0_11_0 (i1 : Int32) : Int32 := (if (32 : Int32) < ((i1 &&& (65535 : Int32)).toUInt32.toUInt16.toUInt32.toInt32) then (0 : Int32) else (if ((((4294977024 : Int64).toUInt64 >>> (((i1 &&& (65535 : Int32)).toUInt32.toUInt16.toUInt32.toInt32) &&& 0x3f).toInt64.toUInt64).toInt64) &&& (1 : Int64)) = (0 : Int64) then (0 : Int32) else (1 : Int32)))
def own_j0_37_0 (i1 : Int32) : Int32 := (if (nar .boolean (own_j1_3_0 ((i1 &&& (65535 : Int32)).toUInt32.toUInt16.toUInt32.toInt32))) = (own_j0_11_0 i1) then (1 : Int32) else (0 : Int32))
def Q0 (Z : State) (i1 : Int32) (h0 : Heap) (n0 : Nat) (v : Option Value) (h : Heap) (L : List Loc) : Prop := v = some (.int (nar .boolean (own_j0_37_0 i1))) ∧ Fr n0 L
theorem ef_0 (m : MethodId) (x0 : Int32) : entryFrame m #[(.int x0)] maxLocals = mkF m 0 #[.val (.int x0), .unset, .unset, .unset] [] := by first | (simp [entryFrame, mkF, argsToLocals, Value.category, maxLocals]; done) | rfl
set_option maxRecDepth 65536 in
set_option maxHeartbeats 40000000 in
theorem rm0 (l : Launch) (Z : State) (a0 : Array Value) (hw : ∀ d ∈ tables_1, d.before a0 Z = true) (ws : List Jvm.Cond) (i1 : Int32) (h0 : Heap) (n0 : Nat) (Z0 : n0 ≤ h0.size) :
    MetFree l x (head1 (Jvm.Cond.code x code maxLocals ret :: ws) room_1) (fun a U => a = #[(.int i1)] ∧ Z.Warmed39 U.vm ∧ U.heap = h0) (fun _ _ _ _ _ => True) (fun _ U o U' => ∃ v L, o = .returned v ∧ Q0 Z i1 h0 n0 v U'.heap L ∧ FrameEnd U o U' L room_1.cells room_1.slots) := by
  refine MetFree.of_bodySF (plainFor_of_name pn_1) hisR ?_
  intro p e s m args below meth c s₁ Bd hml0 hP hK
  obtain ⟨rfl, hZ, hh⟩ := hP
  have hx := Bd.exec
  have hby := Bd.bytes
  have hml : c.maxLocals = 4 := hml0
  have hown : s.vm.findClass "com/example/aschenputtel/aschenputtel/values/TrimmableTextIsWhitespacePinLaw" = some m.cls := findClass_of_methodNamed Bd.named
  have hnm := (name_of_methodNamed Bd.named Bd.method).1
  have X0 : Stand p l e room_1 s m #[(.int i1)] below meth c s₁ [] 0 0 := Stand.of_body Bd
  have e0 : s₁.heap = h0 := by rw [← hh, Bd.state]; rfl
  have N0 := Fr.nil n0
  have pre0 : ∀ t, Steps p.tables e below (s₁.setTop (mkF m 0 #[.val (.int i1), .unset, .unset, .unset] [])) t → Steps p.tables e below (s₁.setTop (entryFrame m #[(.int i1)] maxLocals)) t := fun t k => castTop (ef_0 m i1) k
  have pre1 : ∀ t, Steps p.tables e below (s₁.setTop (mkF m 11 #[.val (.int i1), .val (.int ((i1 &&& (65535 : Int32)).toUInt32.toUInt16.toUInt32.toInt32)), .val (.int ((i1 &&& (65535 : Int32)).toUInt32.toUInt16.toUInt32.toInt32)), .unset] [(.int (32 : Int32)), (.int ((i1 &&& (65535 : Int32)).toUInt32.toUInt16.toUInt32.toInt32))])) t → Steps p.tables e below (s₁.setTop (entryFrame m #[(.int i1)] maxLocals)) t := by
    intro t k
    refine pre0 _ ?_
    show Steps p.tables e below (s₁.setTop (mkF m 0 #[.val (.int i1), .unset, .unset, .unset] [])) _
    refine XS.iloadN X0.here hx rfl (hb hby at_0) rfl ?_
    show Steps p.tables e below (s₁.setTop (mkF m 1 #[.val (.int i1), .unset, .unset, .unset] [(.int i1)])) _
    refine X0.ldcInt hx hown (mvT hZ (hw _ (List.mem_of_getElem? (i := 0) rfl))) (g := (mkF m 1 #[.val (.int i1), .unset, .unset, .unset] [(.int i1)])) rfl (hb hby at_1) _ ?_
    show Steps p.tables e below (s₁.setTop (mkF m 3 #[.val (.int i1), .unset, .unset, .unset] [(.int (65535 : Int32)), (.int i1)])) _
    refine XS.iand X0.here hx rfl (hb hby at_3) rfl ?_
    show Steps p.tables e below (s₁.setTop (mkF m 4 #[.val (.int i1), .unset, .unset, .unset] [(.int (i1 &&& (65535 : Int32)))])) _
    refine XS.i2c X0.here hx rfl (hb hby at_4) rfl ?_
    show Steps p.tables e below (s₁.setTop (mkF m 5 #[.val (.int i1), .unset, .unset, .unset] [(.int ((i1 &&& (65535 : Int32)).toUInt32.toUInt16.toUInt32.toInt32))])) _
    refine XS.istoreN X0.here hx rfl (hb hby at_5) rfl (l' := #[.val (.int i1), .val (.int ((i1 &&& (65535 : Int32)).toUInt32.toUInt16.toUInt32.toInt32)), .unset, .unset]) rfl ?_
    show Steps p.tables e below (s₁.setTop (mkF m 6 #[.val (.int i1), .val (.int ((i1 &&& (65535 : Int32)).toUInt32.toUInt16.toUInt32.toInt32)), .unset, .unset] [])) _
    refine XS.iloadN X0.here hx rfl (hb hby at_6) rfl ?_
    show Steps p.tables e below (s₁.setTop (mkF m 7 #[.val (.int i1), .val (.int ((i1 &&& (65535 : Int32)).toUInt32.toUInt16.toUInt32.toInt32)), .unset, .unset] [(.int ((i1 &&& (65535 : Int32)).toUInt32.toUInt16.toUInt32.toInt32))])) _
    refine XS.istoreN X0.here hx rfl (hb hby at_7) rfl (l' := #[.val (.int i1), .val (.int ((i1 &&& (65535 : Int32)).toUInt32.toUInt16.toUInt32.toInt32)), .val (.int ((i1 &&& (65535 : Int32)).toUInt32.toUInt16.toUInt32.toInt32)), .unset]) rfl ?_
    show Steps p.tables e below (s₁.setTop (mkF m 8 #[.val (.int i1), .val (.int ((i1 &&& (65535 : Int32)).toUInt32.toUInt16.toUInt32.toInt32)), .val (.int ((i1 &&& (65535 : Int32)).toUInt32.toUInt16.toUInt32.toInt32)), .unset] [])) _
    refine XS.iloadN X0.here hx rfl (hb hby at_8) rfl ?_
    show Steps p.tables e below (s₁.setTop (mkF m 9 #[.val (.int i1), .val (.int ((i1 &&& (65535 : Int32)).toUInt32.toUInt16.toUInt32.toInt32)), .val (.int ((i1 &&& (65535 : Int32)).toUInt32.toUInt16.toUInt32.toInt32)), .unset] [(.int ((i1 &&& (65535 : Int32)).toUInt32.toUInt16.toUInt32.toInt32))])) _
    refine XS.bipush X0.here hx rfl (hb hby at_9) ?_
    exact k
  have pre8 : ∀ t, Steps p.tables e below (s₁.setTop (mkF m 31 #[.val (.int i1), .val (.int ((i1 &&& (65535 : Int32)).toUInt32.toUInt16.toUInt32.toInt32)), .val (.int ((i1 &&& (65535 : Int32)).toUInt32.toUInt16.toUInt32.toInt32)), .unset] [(.int (own_j0_11_0 i1))])) t → Steps p.tables e below (s₁.setTop (entryFrame m #[(.int i1)] maxLocals)) t := by
    by_cases hc11_2 : (32 : Int32) < ((i1 &&& (65535 : Int32)).toUInt32.toUInt16.toUInt32.toInt32)
    · have pre3 : ∀ t, Steps p.tables e below (s₁.setTop (mkF m 31 #[.val (.int i1), .val (.int ((i1 &&& (65535 : Int32)).toUInt32.toUInt16.toUInt32.toInt32)), .val (.int ((i1 &&& (65535 : Int32)).toUInt32.toUInt16.toUInt32.toInt32)), .unset] [(.int (0 : Int32))])) t → Steps p.tables e below (s₁.setTop (entryFrame m #[(.int i1)] maxLocals)) t := by
        intro t k
        refine pre1 _ ?_
        show Steps p.tables e below (s₁.setTop (mkF m 11 #[.val (.int i1), .val (.int ((i1 &&& (65535 : Int32)).toUInt32.toUInt16.toUInt32.toInt32)), .val (.int ((i1 &&& (65535 : Int32)).toUInt32.toUInt16.toUInt32.toInt32)), .unset] [(.int (32 : Int32)), (.int ((i1 &&& (65535 : Int32)).toUInt32.toUInt16.toUInt32.toInt32))])) _
        refine XS.icmpYes X0.here hx rfl (pc0 := 11) (pc' := 30) rfl (hb hby at_11) rfl (tlt hc11_2).2.2.1 (by decide) (by decide) ?_
        show Steps p.tables e below (s₁.setTop (mkF m 30 #[.val (.int i1), .val (.int ((i1 &&& (65535 : Int32)).toUInt32.toUInt16.toUInt32.toInt32)), .val (.int ((i1 &&& (65535 : Int32)).toUInt32.toUInt16.toUInt32.toInt32)), .unset] [])) _
        refine XS.iconst X0.here hx rfl (hb hby at_30) ?_
        exact k
      exact fun t k => pre3 t (by rw [show (own_j0_11_0 i1) = (0 : Int32) from (if_pos hc11_2)] at k; exact k)
    · have pre4 : ∀ t, Steps p.tables e below (s₁.setTop (mkF m 23 #[.val (.int i1), .val (.int ((i1 &&& (65535 : Int32)).toUInt32.toUInt16.toUInt32.toInt32)), .val (.int ((i1 &&& (65535 : Int32)).toUInt32.toUInt16.toUInt32.toInt32)), .unset] [(.int (lcmpW ((((4294977024 : Int64).toUInt64 >>> (((i1 &&& (65535 : Int32)).toUInt32.toUInt16.toUInt32.toInt32) &&& 0x3f).toInt64.toUInt64).toInt64) &&& (1 : Int64)) (0 : Int64)))])) t → Steps p.tables e below (s₁.setTop (entryFrame m #[(.int i1)] maxLocals)) t := by
        intro t k
        refine pre1 _ ?_
        show Steps p.tables e below (s₁.setTop (mkF m 11 #[.val (.int i1), .val (.int ((i1 &&& (65535 : Int32)).toUInt32.toUInt16.toUInt32.toInt32)), .val (.int ((i1 &&& (65535 : Int32)).toUInt32.toUInt16.toUInt32.toInt32)), .unset] [(.int (32 : Int32)), (.int ((i1 &&& (65535 : Int32)).toUInt32.toUInt16.toUInt32.toInt32))])) _
        refine XS.icmpNo X0.here hx rfl (hb hby at_11) rfl (flt hc11_2).2.2.1 ?_
        show Steps p.tables e below (s₁.setTop (mkF m 14 #[.val (.int i1), .val (.int ((i1 &&& (65535 : Int32)).toUInt32.toUInt16.toUInt32.toInt32)), .val (.int ((i1 &&& (65535 : Int32)).toUInt32.toUInt16.toUInt32.toInt32)), .unset] [])) _
        refine X0.ldc2Long hx hown (mvT hZ (hw _ (List.mem_of_getElem? (i := 1) rfl))) (g := (mkF m 14 #[.val (.int i1), .val (.int ((i1 &&& (65535 : Int32)).toUInt32.toUInt16.toUInt32.toInt32)), .val (.int ((i1 &&& (65535 : Int32)).toUInt32.toUInt16.toUInt32.toInt32)), .unset] [])) rfl (hb hby at_14) _ ?_
        show Steps p.tables e below (s₁.setTop (mkF m 17 #[.val (.int i1), .val (.int ((i1 &&& (65535 : Int32)).toUInt32.toUInt16.toUInt32.toInt32)), .val (.int ((i1 &&& (65535 : Int32)).toUInt32.toUInt16.toUInt32.toInt32)), .unset] [(.long (4294977024 : Int64))])) _
        refine XS.iloadN X0.here hx rfl (hb hby at_17) rfl ?_
        show Steps p.tables e below (s₁.setTop (mkF m 18 #[.val (.int i1), .val (.int ((i1 &&& (65535 : Int32)).toUInt32.toUInt16.toUInt32.toInt32)), .val (.int ((i1 &&& (65535 : Int32)).toUInt32.toUInt16.toUInt32.toInt32)), .unset] [(.int ((i1 &&& (65535 : Int32)).toUInt32.toUInt16.toUInt32.toInt32)), (.long (4294977024 : Int64))])) _
        refine XS.lushr X0.here hx rfl (hb hby at_18) rfl ?_
        show Steps p.tables e below (s₁.setTop (mkF m 19 #[.val (.int i1), .val (.int ((i1 &&& (65535 : Int32)).toUInt32.toUInt16.toUInt32.toInt32)), .val (.int ((i1 &&& (65535 : Int32)).toUInt32.toUInt16.toUInt32.toInt32)), .unset] [(.long (((4294977024 : Int64).toUInt64 >>> (((i1 &&& (65535 : Int32)).toUInt32.toUInt16.toUInt32.toInt32) &&& 0x3f).toInt64.toUInt64).toInt64))])) _
        refine XS.lconst X0.here hx rfl (hb hby at_19) ?_
        show Steps p.tables e below (s₁.setTop (mkF m 20 #[.val (.int i1), .val (.int ((i1 &&& (65535 : Int32)).toUInt32.toUInt16.toUInt32.toInt32)), .val (.int ((i1 &&& (65535 : Int32)).toUInt32.toUInt16.toUInt32.toInt32)), .unset] [(.long (1 : Int64)), (.long (((4294977024 : Int64).toUInt64 >>> (((i1 &&& (65535 : Int32)).toUInt32.toUInt16.toUInt32.toInt32) &&& 0x3f).toInt64.toUInt64).toInt64))])) _
        refine XS.land X0.here hx rfl (hb hby at_20) rfl ?_
        show Steps p.tables e below (s₁.setTop (mkF m 21 #[.val (.int i1), .val (.int ((i1 &&& (65535 : Int32)).toUInt32.toUInt16.toUInt32.toInt32)), .val (.int ((i1 &&& (65535 : Int32)).toUInt32.toUInt16.toUInt32.toInt32)), .unset] [(.long ((((4294977024 : Int64).toUInt64 >>> (((i1 &&& (65535 : Int32)).toUInt32.toUInt16.toUInt32.toInt32) &&& 0x3f).toInt64.toUInt64).toInt64) &&& (1 : Int64)))])) _
        refine XS.lconst X0.here hx rfl (hb hby at_21) ?_
        show Steps p.tables e below (s₁.setTop (mkF m 22 #[.val (.int i1), .val (.int ((i1 &&& (65535 : Int32)).toUInt32.toUInt16.toUInt32.toInt32)), .val (.int ((i1 &&& (65535 : Int32)).toUInt32.toUInt16.toUInt32.toInt32)), .unset] [(.long (0 : Int64)), (.long ((((4294977024 : Int64).toUInt64 >>> (((i1 &&& (65535 : Int32)).toUInt32.toUInt16.toUInt32.toInt32) &&& 0x3f).toInt64.toUInt64).toInt64) &&& (1 : Int64)))])) _
        refine XS.lcmp X0.here hx rfl (hb hby at_22) rfl ?_
        exact k
      by_cases hc23_5 : ((((4294977024 : Int64).toUInt64 >>> (((i1 &&& (65535 : Int32)).toUInt32.toUInt16.toUInt32.toInt32) &&& 0x3f).toInt64.toUInt64).toInt64) &&& (1 : Int64)) = (0 : Int64)
      · have pre6 : ∀ t, Steps p.tables e below (s₁.setTop (mkF m 31 #[.val (.int i1), .val (.int ((i1 &&& (65535 : Int32)).toUInt32.toUInt16.toUInt32.toInt32)), .val (.int ((i1 &&& (65535 : Int32)).toUInt32.toUInt16.toUInt32.toInt32)), .unset] [(.int (0 : Int32))])) t → Steps p.tables e below (s₁.setTop (entryFrame m #[(.int i1)] maxLocals)) t := by
          intro t k
          refine pre4 _ ?_
          show Steps p.tables e below (s₁.setTop (mkF m 23 #[.val (.int i1), .val (.int ((i1 &&& (65535 : Int32)).toUInt32.toUInt16.toUInt32.toInt32)), .val (.int ((i1 &&& (65535 : Int32)).toUInt32.toUInt16.toUInt32.toInt32)), .unset] [(.int (lcmpW ((((4294977024 : Int64).toUInt64 >>> (((i1 &&& (65535 : Int32)).toUInt32.toUInt16.toUInt32.toInt32) &&& 0x3f).toInt64.toUInt64).toInt64) &&& (1 : Int64)) (0 : Int64)))])) _
          refine XS.ifYes X0.here hx rfl (pc0 := 23) (pc' := 30) rfl (hb hby at_23) rfl ((if0 _ _).trans (teq ((lw_eq ((((4294977024 : Int64).toUInt64 >>> (((i1 &&& (65535 : Int32)).toUInt32.toUInt16.toUInt32.toInt32) &&& 0x3f).toInt64.toUInt64).toInt64) &&& (1 : Int64)) (0 : Int64)).mpr hc23_5)).1) (by decide) (by decide) ?_
          show Steps p.tables e below (s₁.setTop (mkF m 30 #[.val (.int i1), .val (.int ((i1 &&& (65535 : Int32)).toUInt32.toUInt16.toUInt32.toInt32)), .val (.int ((i1 &&& (65535 : Int32)).toUInt32.toUInt16.toUInt32.toInt32)), .unset] [])) _
          refine XS.iconst X0.here hx rfl (hb hby at_30) ?_
          exact k
        exact fun t k => pre6 t (by rw [show (own_j0_11_0 i1) = (0 : Int32) from ((if_neg hc11_2).trans (if_pos hc23_5))] at k; exact k)
      · have pre7 : ∀ t, Steps p.tables e below (s₁.setTop (mkF m 31 #[.val (.int i1), .val (.int ((i1 &&& (65535 : Int32)).toUInt32.toUInt16.toUInt32.toInt32)), .val (.int ((i1 &&& (65535 : Int32)).toUInt32.toUInt16.toUInt32.toInt32)), .unset] [(.int (1 : Int32))])) t → Steps p.tables e below (s₁.setTop (entryFrame m #[(.int i1)] maxLocals)) t := by
          intro t k
          refine pre4 _ ?_
          show Steps p.tables e below (s₁.setTop (mkF m 23 #[.val (.int i1), .val (.int ((i1 &&& (65535 : Int32)).toUInt32.toUInt16.toUInt32.toInt32)), .val (.int ((i1 &&& (65535 : Int32)).toUInt32.toUInt16.toUInt32.toInt32)), .unset] [(.int (lcmpW ((((4294977024 : Int64).toUInt64 >>> (((i1 &&& (65535 : Int32)).toUInt32.toUInt16.toUInt32.toInt32) &&& 0x3f).toInt64.toUInt64).toInt64) &&& (1 : Int64)) (0 : Int64)))])) _
          refine XS.ifNo X0.here hx rfl (hb hby at_23) rfl ((if0 _ _).trans (feq (mt (lw_eq ((((4294977024 : Int64).toUInt64 >>> (((i1 &&& (65535 : Int32)).toUInt32.toUInt16.toUInt32.toInt32) &&& 0x3f).toInt64.toUInt64).toInt64) &&& (1 : Int64)) (0 : Int64)).mp hc23_5)).1) ?_
          show Steps p.tables e below (s₁.setTop (mkF m 26 #[.val (.int i1), .val (.int ((i1 &&& (65535 : Int32)).toUInt32.toUInt16.toUInt32.toInt32)), .val (.int ((i1 &&& (65535 : Int32)).toUInt32.toUInt16.toUInt32.toInt32)), .unset] [])) _
          refine XS.iconst X0.here hx rfl (hb hby at_26) ?_
          show Steps p.tables e below (s₁.setTop (mkF m 27 #[.val (.int i1), .val (.int ((i1 &&& (65535 : Int32)).toUInt32.toUInt16.toUInt32.toInt32)), .val (.int ((i1 &&& (65535 : Int32)).toUInt32.toUInt16.toUInt32.toInt32)), .unset] [(.int (1 : Int32))])) _
          refine XS.goto X0.here hx rfl (pc0 := 27) (pc' := 31) rfl (hb hby at_27) (by decide) (by decide) ?_
          exact k
        exact fun t k => pre7 t (by rw [show (own_j0_11_0 i1) = (1 : Int32) from ((if_neg hc11_2).trans (if_neg hc23_5))] at k; exact k)
  obtain ⟨_, _, ⟨T9, L9, k9, n9⟩, -, X9, ⟨Lc9, hQ9, l9, y9, z9⟩, st9⟩ := Jvm.LawKit.callS X0 hx (y := (⟨"com/example/aschenputtel/aschenputtel/values/TrimmableText", "isWhitespace", "(C)Z"⟩ : MethodName)) hown (mvT hZ (hw _ (List.mem_of_getElem? (i := 2) rfl))) (mvT hZ (hw _ (List.mem_of_getElem? (i := 3) rfl))) (mvT hZ (hw _ (List.mem_of_getElem? (i := 4) rfl))) (mvT hZ (hw _ (List.mem_of_getElem? (i := 5) rfl))) (by decide) (backOf (W := 0) (rm1 l Z a0 hw [] ((i1 &&& (65535 : Int32)).toUInt32.toUInt16.toUInt32.toInt32) h0 n0 (Nat.le_trans Z0 (Keep.refl h0 []).1) ) hZ (hw _ (List.mem_of_getElem? (i := 5) rfl)) (hw _ (List.mem_of_getElem? (i := 4) rfl)) (by decide) (by decide)) (g := (mkF m 33 #[.val (.int i1), .val (.int ((i1 &&& (65535 : Int32)).toUInt32.toUInt16.toUInt32.toInt32)), .val (.int ((i1 &&& (65535 : Int32)).toUInt32.toUInt16.toUInt32.toInt32)), .val (.int (own_j0_11_0 i1))] [(.int ((i1 &&& (65535 : Int32)).toUInt32.toUInt16.toUInt32.toInt32))])) rfl (by rw [hml]; rfl) (argsL := [(.int ((i1 &&& (65535 : Int32)).toUInt32.toUInt16.toUInt32.toInt32))]) (rest := []) (lenOf pd_0 rfl) rfl (by show 2 * 0 + _ ≤ _; exact Nat.le_of_eq rfl) (hb hby at_33) (fun _ _ => ⟨rfl, e0, (by decide : 0 + 0 ≤ _), (by decide : 0 + 0 ≤ _)⟩)
  dsimp only [Pt.U, Pt.locs, Pt.cells, Pt.slots] at X9 l9 y9 z9 st9 hQ9
  subst l9 y9 z9
  obtain ⟨rfl, Nq9, e9⟩ := hQ9
  have N9 := Fr.app N0 Nq9
  have pre10 : ∀ t, Steps p.tables e below (T9.setTop (mkF m 37 #[.val (.int i1), .val (.int ((i1 &&& (65535 : Int32)).toUInt32.toUInt16.toUInt32.toInt32)), .val (.int ((i1 &&& (65535 : Int32)).toUInt32.toUInt16.toUInt32.toInt32)), .val (.int (own_j0_11_0 i1))] [(.int (own_j0_11_0 i1)), (.int (nar .boolean (own_j1_3_0 ((i1 &&& (65535 : Int32)).toUInt32.toUInt16.toUInt32.toInt32))))])) t → Steps p.tables e below (s₁.setTop (entryFrame m #[(.int i1)] maxLocals)) t := by
    intro t k
    refine pre8 _ ?_
    show Steps p.tables e below (s₁.setTop (mkF m 31 #[.val (.int i1), .val (.int ((i1 &&& (65535 : Int32)).toUInt32.toUInt16.toUInt32.toInt32)), .val (.int ((i1 &&& (65535 : Int32)).toUInt32.toUInt16.toUInt32.toInt32)), .unset] [(.int (own_j0_11_0 i1))])) _
    refine XS.istoreN X0.here hx rfl (hb hby at_31) rfl (l' := #[.val (.int i1), .val (.int ((i1 &&& (65535 : Int32)).toUInt32.toUInt16.toUInt32.toInt32)), .val (.int ((i1 &&& (65535 : Int32)).toUInt32.toUInt16.toUInt32.toInt32)), .val (.int (own_j0_11_0 i1))]) rfl ?_
    show Steps p.tables e below (s₁.setTop (mkF m 32 #[.val (.int i1), .val (.int ((i1 &&& (65535 : Int32)).toUInt32.toUInt16.toUInt32.toInt32)), .val (.int ((i1 &&& (65535 : Int32)).toUInt32.toUInt16.toUInt32.toInt32)), .val (.int (own_j0_11_0 i1))] [])) _
    refine XS.iloadN X0.here hx rfl (hb hby at_32) rfl ?_
    show Steps p.tables e below (s₁.setTop (mkF m 33 #[.val (.int i1), .val (.int ((i1 &&& (65535 : Int32)).toUInt32.toUInt16.toUInt32.toInt32)), .val (.int ((i1 &&& (65535 : Int32)).toUInt32.toUInt16.toUInt32.toInt32)), .val (.int (own_j0_11_0 i1))] [(.int ((i1 &&& (65535 : Int32)).toUInt32.toUInt16.toUInt32.toInt32))])) _
    refine st9 _ ?_
    show Steps p.tables e below (T9.setTop (mkF m 36 #[.val (.int i1), .val (.int ((i1 &&& (65535 : Int32)).toUInt32.toUInt16.toUInt32.toInt32)), .val (.int ((i1 &&& (65535 : Int32)).toUInt32.toUInt16.toUInt32.toInt32)), .val (.int (own_j0_11_0 i1))] [(.int (nar .boolean (own_j1_3_0 ((i1 &&& (65535 : Int32)).toUInt32.toUInt16.toUInt32.toInt32))))])) _
    refine XS.iloadN X9.here hx rfl (hb hby at_36) rfl ?_
    exact k
  have pre14 : ∀ t, Steps p.tables e below (T9.setTop (mkF m 45 #[.val (.int i1), .val (.int ((i1 &&& (65535 : Int32)).toUInt32.toUInt16.toUInt32.toInt32)), .val (.int ((i1 &&& (65535 : Int32)).toUInt32.toUInt16.toUInt32.toInt32)), .val (.int (own_j0_11_0 i1))] [(.int (own_j0_37_0 i1))])) t → Steps p.tables e below (s₁.setTop (entryFrame m #[(.int i1)] maxLocals)) t := by
    by_cases hc37_11 : (nar .boolean (own_j1_3_0 ((i1 &&& (65535 : Int32)).toUInt32.toUInt16.toUInt32.toInt32))) = (own_j0_11_0 i1)
    · have pre12 : ∀ t, Steps p.tables e below (T9.setTop (mkF m 45 #[.val (.int i1), .val (.int ((i1 &&& (65535 : Int32)).toUInt32.toUInt16.toUInt32.toInt32)), .val (.int ((i1 &&& (65535 : Int32)).toUInt32.toUInt16.toUInt32.toInt32)), .val (.int (own_j0_11_0 i1))] [(.int (1 : Int32))])) t → Steps p.tables e below (s₁.setTop (entryFrame m #[(.int i1)] maxLocals)) t := by
        intro t k
        refine pre10 _ ?_
        show Steps p.tables e below (T9.setTop (mkF m 37 #[.val (.int i1), .val (.int ((i1 &&& (65535 : Int32)).toUInt32.toUInt16.toUInt32.toInt32)), .val (.int ((i1 &&& (65535 : Int32)).toUInt32.toUInt16.toUInt32.toInt32)), .val (.int (own_j0_11_0 i1))] [(.int (own_j0_11_0 i1)), (.int (nar .boolean (own_j1_3_0 ((i1 &&& (65535 : Int32)).toUInt32.toUInt16.toUInt32.toInt32))))])) _
        refine XS.icmpNo X9.here hx rfl (hb hby at_37) rfl (teq hc37_11).2 ?_
        show Steps p.tables e below (T9.setTop (mkF m 40 #[.val (.int i1), .val (.int ((i1 &&& (65535 : Int32)).toUInt32.toUInt16.toUInt32.toInt32)), .val (.int ((i1 &&& (65535 : Int32)).toUInt32.toUInt16.toUInt32.toInt32)), .val (.int (own_j0_11_0 i1))] [])) _
        refine XS.iconst X9.here hx rfl (hb hby at_40) ?_
        show Steps p.tables e below (T9.setTop (mkF m 41 #[.val (.int i1), .val (.int ((i1 &&& (65535 : Int32)).toUInt32.toUInt16.toUInt32.toInt32)), .val (.int ((i1 &&& (65535 : Int32)).toUInt32.toUInt16.toUInt32.toInt32)), .val (.int (own_j0_11_0 i1))] [(.int (1 : Int32))])) _
        refine XS.goto X9.here hx rfl (pc0 := 41) (pc' := 45) rfl (hb hby at_41) (by decide) (by decide) ?_
        exact k
      exact fun t k => pre12 t (by rw [show (own_j0_37_0 i1) = (1 : Int32) from (if_pos hc37_11)] at k; exact k)
    · have pre13 : ∀ t, Steps p.tables e below (T9.setTop (mkF m 45 #[.val (.int i1), .val (.int ((i1 &&& (65535 : Int32)).toUInt32.toUInt16.toUInt32.toInt32)), .val (.int ((i1 &&& (65535 : Int32)).toUInt32.toUInt16.toUInt32.toInt32)), .val (.int (own_j0_11_0 i1))] [(.int (0 : Int32))])) t → Steps p.tables e below (s₁.setTop (entryFrame m #[(.int i1)] maxLocals)) t := by
        intro t k
        refine pre10 _ ?_
        show Steps p.tables e below (T9.setTop (mkF m 37 #[.val (.int i1), .val (.int ((i1 &&& (65535 : Int32)).toUInt32.toUInt16.toUInt32.toInt32)), .val (.int ((i1 &&& (65535 : Int32)).toUInt32.toUInt16.toUInt32.toInt32)), .val (.int (own_j0_11_0 i1))] [(.int (own_j0_11_0 i1)), (.int (nar .boolean (own_j1_3_0 ((i1 &&& (65535 : Int32)).toUInt32.toUInt16.toUInt32.toInt32))))])) _
        refine XS.icmpYes X9.here hx rfl (pc0 := 37) (pc' := 44) rfl (hb hby at_37) rfl (feq hc37_11).2 (by decide) (by decide) ?_
        show Steps p.tables e below (T9.setTop (mkF m 44 #[.val (.int i1), .val (.int ((i1 &&& (65535 : Int32)).toUInt32.toUInt16.toUInt32.toInt32)), .val (.int ((i1 &&& (65535 : Int32)).toUInt32.toUInt16.toUInt32.toInt32)), .val (.int (own_j0_11_0 i1))] [])) _
        refine XS.iconst X9.here hx rfl (hb hby at_44) ?_
        exact k
      exact fun t k => pre13 t (by rw [show (own_j0_37_0 i1) = (0 : Int32) from (if_neg hc37_11)] at k; exact k)
  obtain ⟨fs, hr, hrun, hended, hW, hsame⟩ := X9.leave (v := some (.int (nar .boolean (own_j0_37_0 i1)))) (fun h => by rw [Bd.returns] at h; cases h)
  refine ⟨_, _, pre14 _ ?_, hrun, hended, _, _, rfl, ?_, ⟨_, rfl⟩, hW, hsame.mono (by decide) (by decide)⟩
  · show Steps p.tables e below (T9.setTop (mkF m 45 #[.val (.int i1), .val (.int ((i1 &&& (65535 : Int32)).toUInt32.toUInt16.toUInt32.toInt32)), .val (.int ((i1 &&& (65535 : Int32)).toUInt32.toUInt16.toUInt32.toInt32)), .val (.int (own_j0_11_0 i1))] [(.int (own_j0_37_0 i1))])) _
    exact retN X9 hx (t := .boolean) Bd.returns (by simp) (hb hby at_45) hr
  · show Q0 Z i1 h0 n0 _ T9.heap _
    rw [e9]
    exact ⟨rfl, N9⟩
theorem own_law (i1 : Int32) : (nar .boolean (own_j0_37_0 i1)) = 1 := by
  have key : ∀ c : Int32, 0 ≤ c.toInt → (nar .boolean (own_j1_3_0 c)) = (if (32 : Int32) < c then (0 : Int32) else (if (((4294977024 : Int64).toUInt64 >>> (c &&& 0x3f).toInt64.toUInt64).toInt64 &&& (1 : Int64)) = (0 : Int64) then (0 : Int32) else (1 : Int32))) := by
    intro c hc
    by_cases h : (32 : Int32) < c
    · rw [if_pos h]
      have e : own_j1_3_0 c = 0 := by
        unfold own_j1_3_0
        rw [if_neg, if_neg, if_neg, if_neg]
        all_goals (rintro rfl; revert h; decide)
      rw [e]; rfl
    · rw [if_neg h]
      have h' : ¬ (32 : Int32).toInt < c.toInt := fun q => h (Int32.lt_iff_toInt_lt.mpr q)
      have h32 : (32 : Int32).toInt = 32 := by decide
      obtain ⟨k, hk, rfl⟩ := own_fin (n := 33) hc (by omega)
      have all : ∀ k, k < 33 → (nar .boolean (own_j1_3_0 k.toInt32)) = (if (((4294977024 : Int64).toUInt64 >>> (k.toInt32 &&& 0x3f).toInt64.toUInt64).toInt64 &&& (1 : Int64)) = (0 : Int64) then (0 : Int32) else (1 : Int32)) := by decide +kernel
      exact all k hk
  have e : own_j0_37_0 i1 = 1 := if_pos (key _ (c_i2c (i1 &&& 65535)).2.1)
  rw [e]; rfl
set_option maxRecDepth 65536 in
set_option maxHeartbeats 40000000 in
theorem comes_1 {Post : Tables → Env → Array Value → State → Outcome → State → Prop} (hpost : ∀ tb e args s v u, (limb_1_1.after args s (.returned v) u = true ∧ limb_1_2.after args s (.returned v) u = true ∧ True) → FrameEnd s (.returned v) u (Jvm.fieldLocs frame_1_writes args s ++ Jvm.arrayLocs frame_1_arrays args s ++ Jvm.staticLocs frame_1_statics s) 0 0 → Post tb e args s (.returned v) u) :
    ArmFor flags0 classFile x code maxLocals ret World_1 tables_1 room_1 Calls_1 rest_1 Pre_1 Post := by
  intro l hfl _ _ p e ha hc hk s m args below hf hA hF happ hP
  obtain ⟨hcalls, hrest, hpre⟩ := hP
  obtain ⟨-, -, -, hnamed, -, -, -, hat⟩ := (Spec.applies_iff hf).mp happ
  obtain ⟨hg, hn⟩ := and_e (Cond.before_iff.mp (show (Jvm.Cond.and given_1 narrow_1).before args s = true from hpre))
  obtain ⟨g1, g2⟩ := and_e hg
  obtain ⟨w0, rfl⟩ : ∃ w0 : Value, args = #[w0] := by
    have hs : args.size = 1 := by simpa [Cond.value, given_1] using g1
    obtain ⟨L⟩ := args
    match L, hs with
    | [w0], _ => exact ⟨w0, rfl⟩
  have hw := fun d (hd : d ∈ tables_1) => atoms_spec (ws := Jvm.Cond.code x code maxLocals ret :: tables_1) hat d (List.mem_cons_of_mem _ hd)
  have hfit : Fit s := fun {y c} hc i hi => by
    obtain ⟨ha, rfl⟩ := Array.getElem?_eq_some_iff.mp hc
    have q := List.all_eq_true.mp ((Array.all_eq_true_iff_forall_mem.mp hF) _ (Array.getElem_mem ha)) i (List.mem_range.mpr hi)
    simpa [Array.getElem?_eq_getElem hi] using q
  obtain ⟨i0, ei0⟩ := is_v g2
  obtain rfl : w0 = (.int i0) := Option.some.inj ei0
  obtain ⟨n, o, h1, h2, h3, _, L, rfl, ⟨hv, N⟩, hq⟩ := rm0 l s _ hw tables_1 i0 s.heap s.heap.size (Nat.le_refl _)  p e ha hc hk s m _ below hf ((Spec.applies_iff_loose hf).mp happ).1 ⟨rfl, State.Warmed39.refl s, rfl⟩ trivial
  rw [show (nar .boolean (own_j0_37_0 i0)) = 1 from own_law i0] at hv
  subst hv
  refine ⟨n, _, h1, h2, h3, hpost _ _ _ _ _ _ ⟨Cond.after_iff.mpr rfl, Cond.after_iff.mpr (eq_i res_at (Term.int_eval (1)) rfl), trivial⟩ ⟨hq.1, hq.2.1, (hq.2.2.sift fun y hy => Or.inr (N y hy)).mono (by decide) (by decide)⟩⟩
theorem main_1_1 : Claimed_1_1 := comes_1 fun _ _ _ _ _ _ h hF => ⟨h.1, hF⟩
theorem main_1_2 : Claimed_1_2 := comes_1 fun _ _ _ _ _ _ h hF => ⟨h.2.1, hF⟩
end Jvm.Pilot.@@N@@
namespace Jvm.Pilot.@@N@@
open Jvm Jvm.ClassFile Sem Op Lib Jvm.Free Jvm.Stand Jvm.Pilot.@@N@@.Jvm.D
/-! MADE BY PROGRAM (witnessworld.py) out of the Statement's table words and the real class files: 10 classes; the members and pool entries that the words name. The judged class is class 1, her method 1. -/
namespace start1
open Jvm.ClassFile
def u (s : String) : CpInfo := .utf8 (stringToUtf16 s)
/-- a pool by its gaps: so many unusable entries, then the entry; so many at the end -/
def gap : Nat → List CpInfo → List CpInfo
  | 0, r => r
  | n + 1, r => .unusable :: gap n r
def poolList (es : List (Nat × CpInfo)) (last : Nat) : List CpInfo := es.foldr (fun e r => gap e.1 (e.2 :: r)) (gap last [])
def pool (es : List (Nat × CpInfo)) (last : Nat) : Array CpInfo := ⟨poolList es last⟩
def fileOf (pool : Array CpInfo) (this : Nat) (attrs : Array Attribute := #[]) (ms : Array MethodInfo := #[]) (fl : Nat := 33) (sup : Nat := 0) (ifs : Array Nat := #[]) (fds : Array FieldInfo := #[]) : ClassFile where
  minorVersion := 0
  majorVersion := 65
  constantPool := pool
  accessFlags := fl
  thisClass := this
  superClass := sup
  interfaces := ifs
  fields := fds
  methods := ms
  attributes := attrs
def plain (name : String) (sup : Option ClassId) : Class where
  name := name
  kind := .ordinary
  loader := none
  accessFlags := 33
  super := sup
  interfaces := #[]
  cf := none
  fields := #[]
  methods := #[]
  instanceTypes := #[]
  staticTypes := #[]
  resolved := #[]
  callSites := []
  init := .initialized
  statics := none
  mirror := none

def pool0 : Array CpInfo := pool [(5, u "<init>"), (0, u "()V"), (1, .class_ 10), (1, u "java/lang/Object")] 113

def k0m0 : Method := { name := "<init>", desc := "()V", sig := { parameters := [], returnType := none }, accessFlags := 1, code := none }
/-- java/lang/Object -/
def k0 : Class := { plain "java/lang/Object" none with
  accessFlags := 33
  interfaces := #[]
  cf := some (fileOf pool0 8 #[] #[{ accessFlags := 1, nameIndex := 5, descriptorIndex := 6, attributes := #[] }] 33 0 #[] #[])
  fields := #[]
  methods := #[k0m0]
  instanceTypes := #[]
  staticTypes := #[]
  resolved := Array.replicate 124 none
  statics := none }

def pool1 : Array CpInfo := pool [(2, .class_ 4), (1, u "java/lang/Object"), (0, u "<init>"), (0, u "()V"), (0, .integer 65535), (0, .class_ 9), (0, u "com/example/aschenputtel/aschenputtel/values/TrimmableTextIsWhitespacePinLaw"), (0, .long 4294977024), (1, .interfaceMethodref 13 14), (0, .class_ 15), (0, .nameAndType 16 17), (0, u "com/example/aschenputtel/aschenputtel/values/TrimmableText"), (0, u "isWhitespace"), (0, u "(C)Z"), (0, u "XML_WS_MASK"), (0, u "J"), (3, u "law"), (0, u "(I)Z")] 3

def k1m0 : Method := { name := "<init>", desc := "()V", sig := { parameters := [], returnType := none }, accessFlags := 2, code := none }
def k1c1 : Code := { maxStack := 4, maxLocals := 4, code := code, exceptionTable := #[], attributes := #[] }
def k1m1 : Method := { name := "law", desc := "(I)Z", sig := { parameters := [.int], returnType := some .boolean }, accessFlags := 9, code := some k1c1 }
/-- com/example/aschenputtel/aschenputtel/values/TrimmableTextIsWhitespacePinLaw -/
def k1 : Class := { plain "com/example/aschenputtel/aschenputtel/values/TrimmableTextIsWhitespacePinLaw" (some 0) with
  accessFlags := 49
  interfaces := #[]
  cf := some (fileOf pool1 8 #[] #[{ accessFlags := 2, nameIndex := 5, descriptorIndex := 6, attributes := #[] }, { accessFlags := 9, nameIndex := 23, descriptorIndex := 24, attributes := #[] }] 49 2 #[] #[{ accessFlags := 26, nameIndex := 18, descriptorIndex := 19, attributes := #[] }])
  fields := #[{ name := "XML_WS_MASK", type := .long, accessFlags := 26, slot := 0, constantValue := 0 }]
  methods := #[k1m0, k1m1]
  instanceTypes := #[]
  staticTypes := #[.long]
  resolved := Array.replicate 28 none
  statics := none }

def pool2 : Array CpInfo := pool [(2, .class_ 4), (1, u "java/lang/CharSequence"), (42, .class_ 48), (0, u "java/lang/CharSequence$1CodePointIterator"), (10, .class_ 60), (0, u "java/lang/CharSequence$1CharIterator"), (5, .class_ 67), (0, u "java/lang/Object")] 63

/-- java/lang/CharSequence -/
def k2 : Class := { plain "java/lang/CharSequence" (some 0) with
  accessFlags := 1537
  interfaces := #[]
  cf := some (fileOf pool2 2 #[.nestMembers #[47, 59]] #[] 1537 66 #[] #[])
  fields := #[]
  methods := #[]
  instanceTypes := #[]
  staticTypes := #[]
  resolved := Array.replicate 131 none
  statics := none }

def pool3 : Array CpInfo := pool [(1, .class_ 2), (0, u "com/example/aschenputtel/aschenputtel/values/TrimmableText"), (0, .class_ 4), (0, u "java/lang/Object"), (0, .class_ 6), (0, u "java/lang/CharSequence"), (2, u "isWhitespace"), (0, u "(C)Z")] 5

def k3c0 : Code := { maxStack := 2, maxLocals := 1, code := prog_152_method_2_code, exceptionTable := #[], attributes := #[] }
def k3m0 : Method := { name := "isWhitespace", desc := "(C)Z", sig := { parameters := [.char], returnType := some .boolean }, accessFlags := 9, code := some k3c0 }
/-- com/example/aschenputtel/aschenputtel/values/TrimmableText -/
def k3 : Class := { plain "com/example/aschenputtel/aschenputtel/values/TrimmableText" (some 0) with
  accessFlags := 1537
  interfaces := #[2]
  cf := some (fileOf pool3 1 #[] #[{ accessFlags := 9, nameIndex := 9, descriptorIndex := 10, attributes := #[] }] 1537 3 #[5] #[])
  fields := #[]
  methods := #[k3m0]
  instanceTypes := #[]
  staticTypes := #[]
  resolved := Array.replicate 16 none
  statics := none }

def pool4 : Array CpInfo := pool [(1, u "java/lang/Cloneable"), (0, .class_ 1), (0, u "java/lang/Object"), (0, .class_ 3)] 3

/-- java/lang/Cloneable -/
def k4 : Class := { plain "java/lang/Cloneable" (some 0) with
  accessFlags := 1537
  interfaces := #[]
  cf := some (fileOf pool4 2 #[] #[] 1537 4 #[] #[])
  fields := #[]
  methods := #[]
  instanceTypes := #[]
  staticTypes := #[]
  resolved := Array.replicate 8 none
  statics := none }

def pool5 : Array CpInfo := pool [(1, u "java/io/Serializable"), (0, .class_ 1), (0, u "java/lang/Object"), (0, .class_ 3)] 3

/-- java/io/Serializable -/
def k5 : Class := { plain "java/io/Serializable" (some 0) with
  accessFlags := 1537
  interfaces := #[]
  cf := some (fileOf pool5 2 #[] #[] 1537 4 #[] #[])
  fields := #[]
  methods := #[]
  instanceTypes := #[]
  staticTypes := #[]
  resolved := Array.replicate 8 none
  statics := none }

/-- the primitive byte -/
def k6 : Class := { plain "byte" none with kind := .primitive 'B', accessFlags := 0x411 }
/-- [B -/
def k7 : Class := { plain "[B" (some 0) with kind := .array 6 .byte, interfaces := #[4, 5], accessFlags := 1041 }

/-- the primitive int -/
def k8 : Class := { plain "int" none with kind := .primitive 'I', accessFlags := 0x411 }
/-- [I -/
def k9 : Class := { plain "[I" (some 0) with kind := .array 8 .int, interfaces := #[4, 5], accessFlags := 1041 }

def heap : Heap := #[]
def classes : Array Class := #[k0, k1, k2, k3, k4, k5, k6, k7, k8, k9]
def interned : List (Array UInt16 × Addr) := []
def slotsUsed : Nat := 0
def theMethod : MethodId := ⟨1, 1⟩
def args0 : Array Value := #[.int 5]
def aboutOver (below : List Frame) : State where
  vm := { classes := classes, interned := interned.toArray }
  heap := heap
  slotsUsed := slotsUsed
  threads := #[{ frames := .invoking theMethod args0 :: below }]
def below0 : List Frame := [.native { method := ⟨0, 0⟩, args := #[] }]
def about1 : State := aboutOver below0
def p0 : Program := .bare "" "" ""
def e0 : Env := launch0.env 0 0 0
theorem w_frames : about1.frames = Frame.invoking theMethod args0 :: below0 := rfl
set_option maxRecDepth 65536 in
theorem w_args : argsFit about1.vm theMethod args0 = true := by decide +kernel
set_option maxRecDepth 65536 in
theorem w_heap : heapFits about1 = true := by decide +kernel
set_option maxRecDepth 65536 in
theorem w_runnable : about1.curStatus? = some .runnable := by decide +kernel
set_option maxRecDepth 65536 in
theorem w_alone : about1.alone = true := by decide +kernel
set_option maxRecDepth 65536 in
theorem w_named : about1.methodNamed? x = some theMethod := by decide +kernel
set_option maxRecDepth 65536 in
theorem w_hears : about1.hears theMethod below0 = true := by decide +kernel
set_option maxRecDepth 65536 in
theorem w_ripe : about1.ripe theMethod args0 below0 = true := by decide +kernel
theorem w_running : about1.status = .running := rfl
set_option maxRecDepth 65536 in
theorem w_room : about1.hasRoom e0.platform room_1 = true :=
  launch0.hasRoom_least _ room_1 (by decide +kernel) (by decide +kernel) (by decide +kernel) (by decide +kernel) (by decide +kernel) (by decide +kernel)
theorem allAtoms_all (ts : List Jvm.Cond) (a : Array Jvm.Value) (st : Jvm.State) : (allAtoms ts).before a st = ts.all (fun c => c.before a st) := by
  induction ts with
  | nil => rfl
  | cons c t ih =>
    show (Jvm.Cond.and c (allAtoms t)).before a st = _
    rw [Jvm.Cond.before_and, ih, List.all_cons]
def words1 : List Jvm.Cond := Jvm.Cond.code x code maxLocals ret :: tables_1
/-- a 'code' word, met by the world's own term for the bytes: nothing is compared byte by byte -/
theorem code_word {y : MethodName} {bytes : ByteArray} {mx : Nat} {rt : Option FieldType} {a : Array Value} {s : State} {m : MethodId} {meth : Method} {c : Code} (h1 : s.methodNamed? y = some m) (h2 : s.vm.method? m = some meth) (h3 : meth.code = some c) (h4 : c.code = bytes)
    (h5 : (c.maxLocals == mx && c.exceptionTable.isEmpty && decide (c.maxStack ≤ mostOperands) && decide (meth.sig.returnType = rt) && !meth.locks && decide (parseMethodDescriptor y.desc = some meth.sig)) = true) : (Jvm.Cond.code y bytes mx rt).before a s = true := by
  simp only [Bool.and_eq_true, beq_iff_eq, Bool.not_eq_true', decide_eq_true_eq] at h5
  obtain ⟨⟨⟨⟨⟨g1, g2⟩, g3⟩, g4⟩, g5⟩, g6⟩ := h5
  simp [Cond.before, Cond.holds, Cond.value, h1, h2, h3, h4, g1, g2, g3, g4, g5, g6]
def isCode : Jvm.Cond → Bool
  | .code _ _ _ _ => true
  | _ => false
theorem all_split {L : List Jvm.Cond} {P : Jvm.Cond → Bool} (h1 : L.all (fun c => isCode c || P c) = true) (h2 : ∀ c ∈ L.filter isCode, P c = true) : L.all P = true := by
  refine List.all_eq_true.mpr fun c hc => ?_
  have h := List.all_eq_true.mp h1 c hc
  rcases Bool.eq_false_or_eq_true (isCode c) with hi | hi
  · exact h2 c (List.mem_filter.mpr ⟨hc, hi⟩)
  · simpa [hi] using h
set_option maxRecDepth 65536 in
theorem w_c0 : (Jvm.Cond.code x code maxLocals ret).before args0 about1 = true := code_word (m := ⟨1, 1⟩) (meth := k1m1) (c := k1c1) (by decide +kernel) rfl rfl rfl (by decide +kernel)
set_option maxRecDepth 65536 in
theorem w_c1 : (Jvm.Cond.code ({ cls := "com/example/aschenputtel/aschenputtel/values/TrimmableText", name := "isWhitespace", desc := "(C)Z" } : Jvm.MethodName) prog_152_method_2_code (1 : Nat) (Option.some Jvm.ClassFile.FieldType.boolean)).before args0 about1 = true := code_word (m := ⟨3, 0⟩) (meth := k3m0) (c := k3c0) (by decide +kernel) rfl rfl rfl (by decide +kernel)
def codes1 : List Jvm.Cond := [Jvm.Cond.code x code maxLocals ret, Jvm.Cond.code ({ cls := "com/example/aschenputtel/aschenputtel/values/TrimmableText", name := "isWhitespace", desc := "(C)Z" } : Jvm.MethodName) prog_152_method_2_code (1 : Nat) (Option.some Jvm.ClassFile.FieldType.boolean)]
set_option maxRecDepth 65536 in
theorem codes_eq : words1.filter isCode = codes1 := rfl
theorem w_codes : ∀ c ∈ words1.filter isCode, c.before args0 about1 = true := by
  rw [codes_eq]
  intro c hc
  simp only [codes1, List.mem_cons, List.not_mem_nil, or_false] at hc
  rcases hc with rfl | rfl
  · exact w_c0
  · exact w_c1
set_option maxRecDepth 65536 in
theorem w_t1 : words1.all (fun c => isCode c || c.before args0 about1) = true := by decide +kernel
theorem w_tables : (allAtoms (Jvm.Cond.code x code maxLocals ret :: tables_1)).before args0 about1 = true := by
  rw [allAtoms_all]
  show words1.all (fun c => c.before args0 about1) = true
  refine all_split ?_ w_codes
  rw [w_t1]
set_option maxRecDepth 65536 in
theorem w_case : (Jvm.Cond.and given_1 narrow_1).before args0 about1 = true := by decide +kernel
theorem w_applies : (headSpec (Jvm.Cond.code x code maxLocals ret :: tables_1) room_1).applies x e0.platform about1 = true :=
  (Spec.applies_iff w_frames).mpr ⟨w_running, w_runnable, w_alone, w_named, w_hears, w_ripe, w_room, w_tables⟩
theorem atStart : AtStart classFile x code maxLocals ret World_1 tables_1 room_1 Calls_1 rest_1 Pre_1 launch0 p0 e0 about1 theMethod args0 below0 :=
  ⟨lists_1, trivial, launch0.admits_env _ _ _, launch0.least_env, fairChoices_fair.cas, fairChoices_fair.clock, w_frames, w_args, w_heap, w_applies, trivial, trivial, w_case⟩
end start1
theorem witness_1 : WitnessClaimed_1 := ⟨start1.p0, start1.e0, start1.about1, start1.theMethod, start1.args0, start1.below0, start1.atStart⟩
end Jvm.Pilot.@@N@@
