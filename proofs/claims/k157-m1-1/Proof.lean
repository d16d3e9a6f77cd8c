import JvmDerived
import JvmDerived.Pilot.@@N@@Statement
import JvmDerived.Pilot.@@N@@Code
set_option linter.unusedVariables false
set_option linter.unusedSimpArgs false
namespace Jvm.RoadKit
open Sem ClassFile Op Lib Jvm.Stand Jvm.Free Jvm.LawKit
section New
variable {p : Program} {l : Launch} {e : Env} {R : Room} {s : State} {m : MethodId} {args : Array Value} {below : List Frame} {meth : Method} {c : Code} {T : State} {locs : List Loc} {cells slots : Nat}
theorem retI (X : Stand p l e R s m args below meth c T locs cells slots) (hx : p.tables.exec = Jvm.exec) {pc : Nat} {Ls : Array Slot} {z : Int32} {rest : List Value} (hret : meth.sig.returnType = some .int) (hd : decode c.code pc = .ok (.ireturn, 1)) {fs : List Frame}
    (hl : ∀ (f : JFrame) (acts : List Action), f.method = m → f.locked = none → f.entered = [] → (doReturn e (T.setTop f) acts (some (.int z))).1 = T.setFrames fs) : Steps p.tables e below (T.setTop (mkF m pc Ls (.int z :: rest))) (T.setFrames fs) := by
  have hm' : T.vm.method? m = some meth := X.method'
  have hn : narrow .int (.int z) = .int z := rfl
  show Steps p.tables e below (T.setTop { method := m, pc := pc, locals := Ls, stack := _ :: rest, locked := none }) _
  jvm_step X.here [X.here.top, hx, hd, hm', hret, hn]
  first | (intro acts; rw [hl _ acts rfl rfl rfl]) | rw [hl _ _ rfl rfl rfl]
  exact Steps.refl _
end New
end Jvm.RoadKit
namespace Jvm.Pilot.@@N@@
open Jvm Jvm.ClassFile Sem Op Lib Jvm.Free Jvm.Stand Jvm.LawKit Jvm.RoadKit Bundle Jvm.Pilot.@@N@@.Jvm.D
theorem d1_0 : decode jdk_38_method_2_code 0 = .ok (.aload_n 0, 1) := by decide +kernel
theorem d1_1 : decode jdk_38_method_2_code 1 = .ok (.invokespecial 1, 3) := by decide +kernel
theorem d1_4 : decode jdk_38_method_2_code 4 = .ok (.aload_n 0, 1) := by decide +kernel
theorem d1_5 : decode jdk_38_method_2_code 5 = .ok (.getstatic 39, 3) := by decide +kernel
theorem d1_8 : decode jdk_38_method_2_code 8 = .ok (.putfield 9, 3) := by decide +kernel
theorem d1_11 : decode jdk_38_method_2_code 11 = .ok (.return_, 1) := by decide +kernel
theorem d2_0 : decode jdk_39_method_1_code 0 = .ok (.aload_n 0, 1) := by decide +kernel
theorem d2_1 : decode jdk_39_method_1_code 1 = .ok (.invokespecial 1, 3) := by decide +kernel
theorem d2_4 : decode jdk_39_method_1_code 4 = .ok (.aload_n 0, 1) := by decide +kernel
theorem d2_5 : decode jdk_39_method_1_code 5 = .ok (.iconst 0, 1) := by decide +kernel
theorem d2_6 : decode jdk_39_method_1_code 6 = .ok (.putfield 7, 3) := by decide +kernel
theorem d2_9 : decode jdk_39_method_1_code 9 = .ok (.return_, 1) := by decide +kernel
theorem d3_0 : decode jdk_22_method_1_code 0 = .ok (.aload_n 0, 1) := by decide +kernel
theorem d3_1 : decode jdk_22_method_1_code 1 = .ok (.invokespecial 1, 3) := by decide +kernel
theorem d3_4 : decode jdk_22_method_1_code 4 = .ok (.return_, 1) := by decide +kernel
theorem d5_0 : decode prog_11_method_1_code 0 = .ok (.aload_n 0, 1) := by decide +kernel
theorem d5_1 : decode prog_11_method_1_code 1 = .ok (.invokespecial 1, 3) := by decide +kernel
theorem d5_4 : decode prog_11_method_1_code 4 = .ok (.aload_n 0, 1) := by decide +kernel
theorem d5_5 : decode prog_11_method_1_code 5 = .ok (.aload_n 1, 1) := by decide +kernel
theorem d5_6 : decode prog_11_method_1_code 6 = .ok (.putfield 7, 3) := by decide +kernel
theorem d5_9 : decode prog_11_method_1_code 9 = .ok (.aload_n 0, 1) := by decide +kernel
theorem d5_10 : decode prog_11_method_1_code 10 = .ok (.iload_n 2, 1) := by decide +kernel
theorem d5_11 : decode prog_11_method_1_code 11 = .ok (.putfield 13, 3) := by decide +kernel
theorem d5_14 : decode prog_11_method_1_code 14 = .ok (.aload_n 0, 1) := by decide +kernel
theorem d5_15 : decode prog_11_method_1_code 15 = .ok (.lload_n 3, 1) := by decide +kernel
theorem d5_16 : decode prog_11_method_1_code 16 = .ok (.putfield 17, 3) := by decide +kernel
theorem d5_19 : decode prog_11_method_1_code 19 = .ok (.aload_n 0, 1) := by decide +kernel
theorem d5_20 : decode prog_11_method_1_code 20 = .ok (.iload 5, 2) := by decide +kernel
theorem d5_22 : decode prog_11_method_1_code 22 = .ok (.putfield 21, 3) := by decide +kernel
theorem d5_25 : decode prog_11_method_1_code 25 = .ok (.aload_n 0, 1) := by decide +kernel
theorem d5_26 : decode prog_11_method_1_code 26 = .ok (.lload 6, 2) := by decide +kernel
theorem d5_28 : decode prog_11_method_1_code 28 = .ok (.putfield 24, 3) := by decide +kernel
theorem d5_31 : decode prog_11_method_1_code 31 = .ok (.return_, 1) := by decide +kernel
theorem d6_0 : decode prog_11_method_6_code 0 = .ok (.aload_n 0, 1) := by decide +kernel
theorem d6_1 : decode prog_11_method_6_code 1 = .ok (.getfield 21, 3) := by decide +kernel
theorem d6_4 : decode prog_11_method_6_code 4 = .ok (.ifCond .ne 10, 3) := by decide +kernel
theorem d6_7 : decode prog_11_method_6_code 7 = .ok (.aload_n 0, 1) := by decide +kernel
theorem d6_8 : decode prog_11_method_6_code 8 = .ok (.getfield 17, 3) := by decide +kernel
theorem d6_11 : decode prog_11_method_6_code 11 = .ok (.goto 7, 3) := by decide +kernel
theorem d6_14 : decode prog_11_method_6_code 14 = .ok (.aload_n 0, 1) := by decide +kernel
theorem d6_15 : decode prog_11_method_6_code 15 = .ok (.getfield 24, 3) := by decide +kernel
theorem d6_18 : decode prog_11_method_6_code 18 = .ok (.lreturn, 1) := by decide +kernel
theorem d7_0 : decode prog_11_method_5_code 0 = .ok (.aload_n 0, 1) := by decide +kernel
theorem d7_1 : decode prog_11_method_5_code 1 = .ok (.getfield 21, 3) := by decide +kernel
theorem d7_4 : decode prog_11_method_5_code 4 = .ok (.ireturn, 1) := by decide +kernel
theorem d8_0 : decode prog_11_method_4_code 0 = .ok (.aload_n 0, 1) := by decide +kernel
theorem d8_1 : decode prog_11_method_4_code 1 = .ok (.getfield 17, 3) := by decide +kernel
theorem d8_4 : decode prog_11_method_4_code 4 = .ok (.lreturn, 1) := by decide +kernel
theorem pn_0 : plainName "java/util/AbstractCollection" = true := by first | (simp [plainName, overriddenIn]; done) | decide +kernel
theorem pn_1 : plainName "java/util/AbstractList" = true := by first | (simp [plainName, overriddenIn]; done) | decide +kernel
theorem pn_2 : plainName "java/util/ArrayList" = true := by first | (simp [plainName, overriddenIn]; done) | decide +kernel
theorem pn_3 : plainName "com/example/arpol/arpol/PolicyReading" = true := by first | (simp [plainName, overriddenIn]; done) | decide +kernel
theorem pn_4 : plainName "com/example/arpol/arpol/PolicyReadingFinishedLengthPinLaw" = true := by first | (simp [plainName, overriddenIn]; done) | decide +kernel
theorem pd_0 : parseMethodDescriptor "()V" = some ⟨[], none⟩ := by decide +kernel
theorem pd_1 : parseMethodDescriptor "(Ljava/util/List;IJIJ)V" = some ⟨[(.object "java/util/List"), .int, .long, .int, .long], none⟩ := by decide +kernel
theorem pd_2 : parseMethodDescriptor "()J" = some ⟨[], some .long⟩ := by decide +kernel
theorem pd_3 : parseMethodDescriptor "()I" = some ⟨[], some .int⟩ := by decide +kernel
theorem own_nar1 {x : Int32} (h : x = 1) : nar .boolean x = 1 := by subst h; rfl
theorem own_n0 : nar .boolean (0 : Int32) = 0 := rfl
theorem own_n1 : nar .boolean (1 : Int32) = 1 := rfl
def Q3 (Z : State) (r0 : Addr) (h0 : Heap) (n0 : Nat) (v : Option Value) (h : Heap) (L : List Loc) : Prop := v = none ∧ Fr n0 L ∧ h = h0
theorem ef_3 (m : MethodId) (x0 : Addr) : entryFrame m #[(.ref x0)] 1 = mkF m 0 #[.val (.ref x0)] [] := by first | (simp [entryFrame, mkF, argsToLocals, Value.category]; done) | rfl
set_option maxRecDepth 65536 in
set_option maxHeartbeats 40000000 in
theorem rm3 (l : Launch) (Z : State) (a0 : Array Value) (hw : ∀ d ∈ tables_1, d.before a0 Z = true) (ws : List Jvm.Cond) (r0 : Addr) (h0 : Heap) (n0 : Nat) (Z0 : n0 ≤ h0.size) :
    MetFree l (⟨"java/util/AbstractCollection", "<init>", "()V"⟩ : MethodName) (head1 (Jvm.Cond.code (⟨"java/util/AbstractCollection", "<init>", "()V"⟩ : MethodName) jdk_22_method_1_code 1 none :: ws) ({ frames := 1, cells := 0, slots := 0, locals := 12 } : Room)) (fun a U => a = #[(.ref r0)] ∧ Z.Warmed39 U.vm ∧ U.heap = h0) (fun _ _ _ _ _ => True) (fun _ U o U' => ∃ v L, o = .returned v ∧ Q3 Z r0 h0 n0 v U'.heap L ∧ FrameEnd U o U' L ({ frames := 1, cells := 0, slots := 0, locals := 12 } : Room).cells ({ frames := 1, cells := 0, slots := 0, locals := 12 } : Room).slots) := by
  refine MetFree.of_bodySF (plainFor_of_name pn_0) hisR ?_
  intro p e s m args below meth c s₁ Bd hml0 hP hK
  obtain ⟨rfl, hZ, hh⟩ := hP
  have hx := Bd.exec
  have hby := Bd.bytes
  have hml : c.maxLocals = 1 := hml0
  have hown : s.vm.findClass "java/util/AbstractCollection" = some m.cls := findClass_of_methodNamed Bd.named
  have hnm := (name_of_methodNamed Bd.named Bd.method).1
  have X0 : Stand p l e ({ frames := 1, cells := 0, slots := 0, locals := 12 } : Room) s m #[(.ref r0)] below meth c s₁ [] 0 0 := Stand.of_body Bd
  have e0 : s₁.heap = h0 := by rw [← hh, Bd.state]; rfl
  have N0 := Fr.nil n0
  have pre0 : ∀ t, Steps p.tables e below (s₁.setTop (mkF m 0 #[.val (.ref r0)] [])) t → Steps p.tables e below (s₁.setTop (entryFrame m #[(.ref r0)] 1)) t := fun t k => castTop (ef_3 m r0) k
  obtain ⟨T1, X1, e1, st1⟩ := initO X0 hx hZ hown (hw _ (List.mem_of_getElem? (i := 18) rfl)) (hw _ (List.mem_of_getElem? (i := 19) rfl)) (hw _ (List.mem_of_getElem? (i := 20) rfl)) e0 (g := (mkF m 1 #[.val (.ref r0)] [(.ref r0)])) rfl (by rw [hml]; rfl) rfl (hb hby d3_1) (by decide) (W := 0) (by show 2 * 0 + _ ≤ _; exact Nat.le_of_eq rfl) (by decide)
  have pre2 : ∀ t, Steps p.tables e below (T1.setTop (mkF m 4 #[.val (.ref r0)] [])) t → Steps p.tables e below (s₁.setTop (entryFrame m #[(.ref r0)] 1)) t := by
    intro t k
    refine pre0 _ ?_
    show Steps p.tables e below (s₁.setTop (mkF m 0 #[.val (.ref r0)] [])) _
    refine XS.aloadN X0.here hx rfl (hb hby d3_0) rfl rfl ?_
    show Steps p.tables e below (s₁.setTop (mkF m 1 #[.val (.ref r0)] [(.ref r0)])) _
    refine st1 _ ?_
    exact k
  obtain ⟨fs, hr, hrun, hended, hW, hsame⟩ := X1.leave (v := none) (fun _ => rfl)
  refine ⟨_, _, pre2 _ ?_, hrun, hended, _, _, rfl, ?_, ⟨_, rfl⟩, hW, hsame.mono (by decide) (by decide)⟩
  · show Steps p.tables e below (T1.setTop (mkF m 4 #[.val (.ref r0)] [])) _
    exact X1.returnOut hx Bd.returns (hb hby d3_4) hr
  · show Q3 Z r0 h0 n0 _ T1.heap _
    rw [e1]
    exact ⟨rfl, N0, rfl⟩
def Q2 (Z : State) (r0 : Addr) (u_elementData_r0 : Value) (u_modCount_r0 : Value) (h0 : Heap) (n0 : Nat) (v : Option Value) (h : Heap) (L : List Loc) : Prop := v = none ∧ Fr n0 L ∧ Keep h0 h [r0] ∧ Exa Z h r0 "java/util/ArrayList" ∧ Fld Z h r0 "java/util/AbstractList" "modCount" "I" (.int (0 : Int32)) ∧ Fld Z h r0 "java/util/ArrayList" "elementData" "[Ljava/lang/Object;" u_elementData_r0
theorem ef_2 (m : MethodId) (x0 : Addr) : entryFrame m #[(.ref x0)] 1 = mkF m 0 #[.val (.ref x0)] [] := by first | (simp [entryFrame, mkF, argsToLocals, Value.category]; done) | rfl
set_option maxRecDepth 65536 in
set_option maxHeartbeats 40000000 in
theorem rm2 (l : Launch) (Z : State) (a0 : Array Value) (hw : ∀ d ∈ tables_1, d.before a0 Z = true) (ws : List Jvm.Cond) (r0 : Addr) (u_elementData_r0 : Value) (u_modCount_r0 : Value) (h0 : Heap) (n0 : Nat) (Z0 : n0 ≤ h0.size) (F_elementData_r0 : Fld Z h0 r0 "java/util/ArrayList" "elementData" "[Ljava/lang/Object;" u_elementData_r0) (E_r0 : Exa Z h0 r0 "java/util/ArrayList") (F_modCount_r0 : Fld Z h0 r0 "java/util/AbstractList" "modCount" "I" u_modCount_r0) (g_r0 : n0 ≤ r0) :
    MetFree l (⟨"java/util/AbstractList", "<init>", "()V"⟩ : MethodName) (head1 (Jvm.Cond.code (⟨"java/util/AbstractList", "<init>", "()V"⟩ : MethodName) jdk_39_method_1_code 1 none :: ws) ({ frames := 2, cells := 0, slots := 0, locals := 24 } : Room)) (fun a U => a = #[(.ref r0)] ∧ Z.Warmed39 U.vm ∧ U.heap = h0) (fun _ _ _ _ _ => True) (fun _ U o U' => ∃ v L, o = .returned v ∧ Q2 Z r0 u_elementData_r0 u_modCount_r0 h0 n0 v U'.heap L ∧ FrameEnd U o U' L ({ frames := 2, cells := 0, slots := 0, locals := 24 } : Room).cells ({ frames := 2, cells := 0, slots := 0, locals := 24 } : Room).slots) := by
  refine MetFree.of_bodySF (plainFor_of_name pn_1) hisR ?_
  intro p e s m args below meth c s₁ Bd hml0 hP hK
  obtain ⟨rfl, hZ, hh⟩ := hP
  have hx := Bd.exec
  have hby := Bd.bytes
  have hml : c.maxLocals = 1 := hml0
  have hown : s.vm.findClass "java/util/AbstractList" = some m.cls := findClass_of_methodNamed Bd.named
  have hnm := (name_of_methodNamed Bd.named Bd.method).1
  have X0 : Stand p l e ({ frames := 2, cells := 0, slots := 0, locals := 24 } : Room) s m #[(.ref r0)] below meth c s₁ [] 0 0 := Stand.of_body Bd
  have e0 : s₁.heap = h0 := by rw [← hh, Bd.state]; rfl
  have N0 := Fr.nil n0
  have pre0 : ∀ t, Steps p.tables e below (s₁.setTop (mkF m 0 #[.val (.ref r0)] [])) t → Steps p.tables e below (s₁.setTop (entryFrame m #[(.ref r0)] 1)) t := fun t k => castTop (ef_2 m r0) k
  obtain ⟨_, _, ⟨T1, L1, k1, n1⟩, -, X1, ⟨Lc1, hQ1, l1, y1, z1⟩, st1⟩ := X0.specialBack hx (y := (⟨"java/util/AbstractCollection", "<init>", "()V"⟩ : MethodName)) rfl hown (mvT hZ (hw _ (List.mem_of_getElem? (i := 12) rfl))) (mvT hZ (hw _ (List.mem_of_getElem? (i := 13) rfl))) (mvT hZ (hw _ (List.mem_of_getElem? (i := 17) rfl))) (by decide) (backOf (W := 0) (rm3 l Z a0 hw [] r0 h0 n0 (Nat.le_trans Z0 (Keep.refl h0 [r0]).1) ) hZ (hw _ (List.mem_of_getElem? (i := 17) rfl)) (hw _ (List.mem_of_getElem? (i := 16) rfl)) (by decide) (by decide)) (g := (mkF m 1 #[.val (.ref r0)] [(.ref r0)])) rfl (by rw [hml]; rfl) (Steps.refl _) (a := r0) (argsL := []) (rest := []) (lenOf pd_0 rfl) rfl (by show 2 * 0 + _ ≤ _; exact Nat.le_of_eq rfl) (hb hby d2_1) (fun _ _ => ⟨rfl, e0, (by decide : 0 + 0 ≤ _), (by decide : 0 + 0 ≤ _)⟩)
  dsimp only [Pt.U, Pt.locs, Pt.cells, Pt.slots] at X1 l1 y1 z1 st1 hQ1
  subst l1 y1 z1
  obtain ⟨rfl, Nq1, e1⟩ := hQ1
  have N1 := Fr.app N0 Nq1
  obtain ⟨T2, h2, X2, e2, W2, st2⟩ := putF X1 hx hZ hown (host := "") (Or.inl (hw _ (List.mem_of_getElem? (i := 21) rfl))) Via.refl e1 F_modCount_r0 E_r0 (Or.inl (hw _ (List.mem_of_getElem? (i := 22) rfl))) (hw _ (List.mem_of_getElem? (i := 1) rfl)) (ty := .int) (by decide) rfl rfl (g := (mkF m 6 #[.val (.ref r0)] [(.int (0 : Int32)), (.ref r0)])) rfl rfl (hb hby d2_6)
  have N2 := Fr.snoc X2 N1 g_r0
  have K3 : Keep h0 h2 [r0] := (Keep.refl h0 [r0]).wr W2 (Or.inl (List.mem_of_getElem? (i := 0) rfl))
  have F2 := F_modCount_r0.same W2
  have pre4 : ∀ t, Steps p.tables e below (T2.setTop (mkF m 9 #[.val (.ref r0)] [])) t → Steps p.tables e below (s₁.setTop (entryFrame m #[(.ref r0)] 1)) t := by
    intro t k
    refine pre0 _ ?_
    show Steps p.tables e below (s₁.setTop (mkF m 0 #[.val (.ref r0)] [])) _
    refine XS.aloadN X0.here hx rfl (hb hby d2_0) rfl rfl ?_
    show Steps p.tables e below (s₁.setTop (mkF m 1 #[.val (.ref r0)] [(.ref r0)])) _
    refine st1.trans ?_
    show Steps p.tables e below (T1.setTop (mkF m 4 #[.val (.ref r0)] [])) _
    refine XS.aloadN X1.here hx rfl (hb hby d2_4) rfl rfl ?_
    show Steps p.tables e below (T1.setTop (mkF m 5 #[.val (.ref r0)] [(.ref r0)])) _
    refine XS.iconst X1.here hx rfl (hb hby d2_5) ?_
    show Steps p.tables e below (T1.setTop (mkF m 6 #[.val (.ref r0)] [(.int (0 : Int32)), (.ref r0)])) _
    refine st2 _ ?_
    exact k
  have f5 := (E_r0.wr W2)
  have f6 := (F_elementData_r0.other W2 (Or.inr (slot_ne (Or.inl (hw _ (List.mem_of_getElem? (i := 25) rfl))) (Or.inl (hw _ (List.mem_of_getElem? (i := 22) rfl))) (by decide) (t := (.array (.object "java/lang/Object"))) (t' := .int) (by decide) (by decide))))
  obtain ⟨fs, hr, hrun, hended, hW, hsame⟩ := X2.leave (v := none) (fun _ => rfl)
  refine ⟨_, _, pre4 _ ?_, hrun, hended, _, _, rfl, ?_, ⟨_, rfl⟩, hW, hsame.mono (by decide) (by decide)⟩
  · show Steps p.tables e below (T2.setTop (mkF m 9 #[.val (.ref r0)] [])) _
    exact X2.returnOut hx Bd.returns (hb hby d2_9) hr
  · show Q2 Z r0 u_elementData_r0 u_modCount_r0 h0 n0 _ T2.heap _
    rw [e2]
    exact ⟨rfl, N2, K3, f5, F2, f6⟩
def Q1 (Z : State) (r0 : Addr) (u_elementData_r0 : Value) (u_modCount_r0 : Value) (w_DEFAULTCAPACITY_EMPTY_ELEMENTDATA : Addr) (h0 : Heap) (n0 : Nat) (v : Option Value) (h : Heap) (L : List Loc) : Prop := v = none ∧ Fr n0 L ∧ Keep h0 h [r0] ∧ Exa Z h r0 "java/util/ArrayList" ∧ Fld Z h r0 "java/util/AbstractList" "modCount" "I" (.int (0 : Int32)) ∧ Fld Z h r0 "java/util/ArrayList" "elementData" "[Ljava/lang/Object;" (.ref w_DEFAULTCAPACITY_EMPTY_ELEMENTDATA)
theorem ef_1 (m : MethodId) (x0 : Addr) : entryFrame m #[(.ref x0)] 1 = mkF m 0 #[.val (.ref x0)] [] := by first | (simp [entryFrame, mkF, argsToLocals, Value.category]; done) | rfl
set_option maxRecDepth 65536 in
set_option maxHeartbeats 40000000 in
theorem rm1 (l : Launch) (Z : State) (a0 : Array Value) (hw : ∀ d ∈ tables_1, d.before a0 Z = true) (ws : List Jvm.Cond) (r0 : Addr) (u_elementData_r0 : Value) (u_modCount_r0 : Value) (w_DEFAULTCAPACITY_EMPTY_ELEMENTDATA : Addr) (h0 : Heap) (n0 : Nat) (Z0 : n0 ≤ h0.size) (F_elementData_r0 : Fld Z h0 r0 "java/util/ArrayList" "elementData" "[Ljava/lang/Object;" u_elementData_r0) (E_r0 : Exa Z h0 r0 "java/util/ArrayList") (F_modCount_r0 : Fld Z h0 r0 "java/util/AbstractList" "modCount" "I" u_modCount_r0) (g_r0 : n0 ≤ r0) (S_DEFAULTCAPACITY_EMPTY_ELEMENTDATA : Sta Z Z.heap "java/util/ArrayList" "DEFAULTCAPACITY_EMPTY_ELEMENTDATA" "[Ljava/lang/Object;" (.ref w_DEFAULTCAPACITY_EMPTY_ELEMENTDATA)) (O_ : Old Z n0 h0) :
    MetFree l (⟨"java/util/ArrayList", "<init>", "()V"⟩ : MethodName) (head1 (Jvm.Cond.code (⟨"java/util/ArrayList", "<init>", "()V"⟩ : MethodName) jdk_38_method_2_code 1 none :: ws) ({ frames := 3, cells := 0, slots := 0, locals := 36 } : Room)) (fun a U => a = #[(.ref r0)] ∧ Z.Warmed39 U.vm ∧ U.heap = h0) (fun _ _ _ _ _ => True) (fun _ U o U' => ∃ v L, o = .returned v ∧ Q1 Z r0 u_elementData_r0 u_modCount_r0 w_DEFAULTCAPACITY_EMPTY_ELEMENTDATA h0 n0 v U'.heap L ∧ FrameEnd U o U' L ({ frames := 3, cells := 0, slots := 0, locals := 36 } : Room).cells ({ frames := 3, cells := 0, slots := 0, locals := 36 } : Room).slots) := by
  refine MetFree.of_bodySF (plainFor_of_name pn_2) hisR ?_
  intro p e s m args below meth c s₁ Bd hml0 hP hK
  obtain ⟨rfl, hZ, hh⟩ := hP
  have hx := Bd.exec
  have hby := Bd.bytes
  have hml : c.maxLocals = 1 := hml0
  have hown : s.vm.findClass "java/util/ArrayList" = some m.cls := findClass_of_methodNamed Bd.named
  have hnm := (name_of_methodNamed Bd.named Bd.method).1
  have X0 : Stand p l e ({ frames := 3, cells := 0, slots := 0, locals := 36 } : Room) s m #[(.ref r0)] below meth c s₁ [] 0 0 := Stand.of_body Bd
  have e0 : s₁.heap = h0 := by rw [← hh, Bd.state]; rfl
  have N0 := Fr.nil n0
  have pre0 : ∀ t, Steps p.tables e below (s₁.setTop (mkF m 0 #[.val (.ref r0)] [])) t → Steps p.tables e below (s₁.setTop (entryFrame m #[(.ref r0)] 1)) t := fun t k => castTop (ef_1 m r0) k
  obtain ⟨_, _, ⟨T1, L1, k1, n1⟩, -, X1, ⟨Lc1, hQ1, l1, y1, z1⟩, st1⟩ := X0.specialBack hx (y := (⟨"java/util/AbstractList", "<init>", "()V"⟩ : MethodName)) rfl hown (mvT hZ (hw _ (List.mem_of_getElem? (i := 6) rfl))) (mvT hZ (hw _ (List.mem_of_getElem? (i := 7) rfl))) (mvT hZ (hw _ (List.mem_of_getElem? (i := 11) rfl))) (by decide) (backOf (W := 0) (rm2 l Z a0 hw [] r0 u_elementData_r0 u_modCount_r0 h0 n0 (Nat.le_trans Z0 (Keep.refl h0 [r0]).1) F_elementData_r0 E_r0 F_modCount_r0 g_r0) hZ (hw _ (List.mem_of_getElem? (i := 11) rfl)) (hw _ (List.mem_of_getElem? (i := 10) rfl)) (by decide) (by decide)) (g := (mkF m 1 #[.val (.ref r0)] [(.ref r0)])) rfl (by rw [hml]; rfl) (Steps.refl _) (a := r0) (argsL := []) (rest := []) (lenOf pd_0 rfl) rfl (by show 2 * 0 + _ ≤ _; exact Nat.le_of_eq rfl) (hb hby d1_1) (fun _ _ => ⟨rfl, e0, (by decide : 0 + 0 ≤ _), (by decide : 0 + 0 ≤ _)⟩)
  dsimp only [Pt.U, Pt.locs, Pt.cells, Pt.slots] at X1 l1 y1 z1 st1 hQ1
  subst l1 y1 z1
  obtain ⟨rfl, Nq1, Kq1, f1_0, f1_1, f1_2⟩ := hQ1
  have K2 : Keep h0 T1.heap [r0] := (Keep.refl h0 [r0]).trans Kq1 (allS (Or.inl (List.mem_of_getElem? (i := 0) rfl)) all0)
  have N1 := Fr.app N0 Nq1
  have f3 := (O_.keep Kq1 (allS g_r0 all0))
  obtain ⟨T4, X4, e4, st4⟩ := getS2 X1 hx hZ hown (host := "") (Or.inl (hw _ (List.mem_of_getElem? (i := 23) rfl))) Via.refl rfl (S_DEFAULTCAPACITY_EMPTY_ELEMENTDATA.ext f3.2) (g := (mkF m 5 #[.val (.ref r0)] [(.ref r0)])) rfl (hb hby d1_5)
  obtain ⟨T5, h5, X5, e5, W5, st5⟩ := putF X4 hx hZ hown (host := "") (Or.inl (hw _ (List.mem_of_getElem? (i := 24) rfl))) Via.refl e4 f1_2 f1_0 (Or.inl (hw _ (List.mem_of_getElem? (i := 25) rfl))) (hw _ (List.mem_of_getElem? (i := 1) rfl)) (ty := (.array (.object "java/lang/Object"))) (by decide) rfl rfl (g := (mkF m 8 #[.val (.ref r0)] [(.ref w_DEFAULTCAPACITY_EMPTY_ELEMENTDATA), (.ref r0)])) rfl rfl (hb hby d1_8)
  have N5 := Fr.snoc X5 N1 g_r0
  have K6 : Keep h0 h5 [r0] := K2.wr W5 (Or.inl (List.mem_of_getElem? (i := 0) rfl))
  have F5 := f1_2.same W5
  have pre7 : ∀ t, Steps p.tables e below (T5.setTop (mkF m 11 #[.val (.ref r0)] [])) t → Steps p.tables e below (s₁.setTop (entryFrame m #[(.ref r0)] 1)) t := by
    intro t k
    refine pre0 _ ?_
    show Steps p.tables e below (s₁.setTop (mkF m 0 #[.val (.ref r0)] [])) _
    refine XS.aloadN X0.here hx rfl (hb hby d1_0) rfl rfl ?_
    show Steps p.tables e below (s₁.setTop (mkF m 1 #[.val (.ref r0)] [(.ref r0)])) _
    refine st1.trans ?_
    show Steps p.tables e below (T1.setTop (mkF m 4 #[.val (.ref r0)] [])) _
    refine XS.aloadN X1.here hx rfl (hb hby d1_4) rfl rfl ?_
    show Steps p.tables e below (T1.setTop (mkF m 5 #[.val (.ref r0)] [(.ref r0)])) _
    refine st4 _ ?_
    show Steps p.tables e below (T4.setTop (mkF m 8 #[.val (.ref r0)] [(.ref w_DEFAULTCAPACITY_EMPTY_ELEMENTDATA), (.ref r0)])) _
    refine st5 _ ?_
    exact k
  have f8 := (f1_0.wr W5)
  have f9 := (f1_1.other W5 (Or.inr (slot_ne (Or.inl (hw _ (List.mem_of_getElem? (i := 22) rfl))) (Or.inl (hw _ (List.mem_of_getElem? (i := 25) rfl))) (by decide) (t := .int) (t' := (.array (.object "java/lang/Object"))) (by decide) (by decide))))
  obtain ⟨fs, hr, hrun, hended, hW, hsame⟩ := X5.leave (v := none) (fun _ => rfl)
  refine ⟨_, _, pre7 _ ?_, hrun, hended, _, _, rfl, ?_, ⟨_, rfl⟩, hW, hsame.mono (by decide) (by decide)⟩
  · show Steps p.tables e below (T5.setTop (mkF m 11 #[.val (.ref r0)] [])) _
    exact X5.returnOut hx Bd.returns (hb hby d1_11) hr
  · show Q1 Z r0 u_elementData_r0 u_modCount_r0 w_DEFAULTCAPACITY_EMPTY_ELEMENTDATA h0 n0 _ T5.heap _
    rw [e5]
    exact ⟨rfl, N5, K6, f8, f9, F5⟩
def Q5 (Z : State) (r0 : Addr) (r1 : Addr) (i2 : Int32) (j3 : Int64) (i4 : Int32) (j5 : Int64) (u_errors_r0 : Value) (u_statements_r0 : Value) (u_length_r0 : Value) (u_unfinishedLine_r0 : Value) (u_unfinishedOffset_r0 : Value) (h0 : Heap) (n0 : Nat) (v : Option Value) (h : Heap) (L : List Loc) : Prop := v = none ∧ Fr n0 L ∧ Keep h0 h [r0] ∧ Exa Z h r0 "com/example/arpol/arpol/PolicyReading" ∧ Fld Z h r0 "com/example/arpol/arpol/PolicyReading" "errors" "Ljava/util/List;" (.ref r1) ∧ Fld Z h r0 "com/example/arpol/arpol/PolicyReading" "statements" "I" (.int i2) ∧ Fld Z h r0 "com/example/arpol/arpol/PolicyReading" "length" "J" (.long j3) ∧ Fld Z h r0 "com/example/arpol/arpol/PolicyReading" "unfinishedLine" "I" (.int i4) ∧ Fld Z h r0 "com/example/arpol/arpol/PolicyReading" "unfinishedOffset" "J" (.long j5)
theorem ef_5 (m : MethodId) (x0 : Addr) (x1 : Addr) (x2 : Int32) (x3 : Int64) (x4 : Int32) (x5 : Int64) : entryFrame m #[(.ref x0), (.ref x1), (.int x2), (.long x3), (.int x4), (.long x5)] 8 = mkF m 0 #[.val (.ref x0), .val (.ref x1), .val (.int x2), .val (.long x3), .second, .val (.int x4), .val (.long x5), .second] [] := by first | (simp [entryFrame, mkF, argsToLocals, Value.category]; done) | rfl
set_option maxRecDepth 65536 in
set_option maxHeartbeats 40000000 in
theorem rm5 (l : Launch) (Z : State) (a0 : Array Value) (hw : ∀ d ∈ tables_1, d.before a0 Z = true) (ws : List Jvm.Cond) (r0 : Addr) (r1 : Addr) (i2 : Int32) (j3 : Int64) (i4 : Int32) (j5 : Int64) (u_errors_r0 : Value) (u_statements_r0 : Value) (u_length_r0 : Value) (u_unfinishedLine_r0 : Value) (u_unfinishedOffset_r0 : Value) (h0 : Heap) (n0 : Nat) (Z0 : n0 ≤ h0.size) (E_r0 : Exa Z h0 r0 "com/example/arpol/arpol/PolicyReading") (F_errors_r0 : Fld Z h0 r0 "com/example/arpol/arpol/PolicyReading" "errors" "Ljava/util/List;" u_errors_r0) (g_r0 : n0 ≤ r0) (F_statements_r0 : Fld Z h0 r0 "com/example/arpol/arpol/PolicyReading" "statements" "I" u_statements_r0) (F_length_r0 : Fld Z h0 r0 "com/example/arpol/arpol/PolicyReading" "length" "J" u_length_r0) (F_unfinishedLine_r0 : Fld Z h0 r0 "com/example/arpol/arpol/PolicyReading" "unfinishedLine" "I" u_unfinishedLine_r0) (F_unfinishedOffset_r0 : Fld Z h0 r0 "com/example/arpol/arpol/PolicyReading" "unfinishedOffset" "J" u_unfinishedOffset_r0) :
    MetFree l (⟨"com/example/arpol/arpol/PolicyReading", "<init>", "(Ljava/util/List;IJIJ)V"⟩ : MethodName) (head1 (Jvm.Cond.code (⟨"com/example/arpol/arpol/PolicyReading", "<init>", "(Ljava/util/List;IJIJ)V"⟩ : MethodName) prog_11_method_1_code 8 none :: ws) ({ frames := 1, cells := 0, slots := 0, locals := 12 } : Room)) (fun a U => a = #[(.ref r0), (.ref r1), (.int i2), (.long j3), (.int i4), (.long j5)] ∧ Z.Warmed39 U.vm ∧ U.heap = h0) (fun _ _ _ _ _ => True) (fun _ U o U' => ∃ v L, o = .returned v ∧ Q5 Z r0 r1 i2 j3 i4 j5 u_errors_r0 u_statements_r0 u_length_r0 u_unfinishedLine_r0 u_unfinishedOffset_r0 h0 n0 v U'.heap L ∧ FrameEnd U o U' L ({ frames := 1, cells := 0, slots := 0, locals := 12 } : Room).cells ({ frames := 1, cells := 0, slots := 0, locals := 12 } : Room).slots) := by
  refine MetFree.of_bodySF (plainFor_of_name pn_3) hisR ?_
  intro p e s m args below meth c s₁ Bd hml0 hP hK
  obtain ⟨rfl, hZ, hh⟩ := hP
  have hx := Bd.exec
  have hby := Bd.bytes
  have hml : c.maxLocals = 8 := hml0
  have hown : s.vm.findClass "com/example/arpol/arpol/PolicyReading" = some m.cls := findClass_of_methodNamed Bd.named
  have hnm := (name_of_methodNamed Bd.named Bd.method).1
  have X0 : Stand p l e ({ frames := 1, cells := 0, slots := 0, locals := 12 } : Room) s m #[(.ref r0), (.ref r1), (.int i2), (.long j3), (.int i4), (.long j5)] below meth c s₁ [] 0 0 := Stand.of_body Bd
  have e0 : s₁.heap = h0 := by rw [← hh, Bd.state]; rfl
  have N0 := Fr.nil n0
  have pre0 : ∀ t, Steps p.tables e below (s₁.setTop (mkF m 0 #[.val (.ref r0), .val (.ref r1), .val (.int i2), .val (.long j3), .second, .val (.int i4), .val (.long j5), .second] [])) t → Steps p.tables e below (s₁.setTop (entryFrame m #[(.ref r0), (.ref r1), (.int i2), (.long j3), (.int i4), (.long j5)] 8)) t := fun t k => castTop (ef_5 m r0 r1 i2 j3 i4 j5) k
  obtain ⟨T1, X1, e1, st1⟩ := initO X0 hx hZ hown (hw _ (List.mem_of_getElem? (i := 32) rfl)) (hw _ (List.mem_of_getElem? (i := 19) rfl)) (hw _ (List.mem_of_getElem? (i := 20) rfl)) e0 (g := (mkF m 1 #[.val (.ref r0), .val (.ref r1), .val (.int i2), .val (.long j3), .second, .val (.int i4), .val (.long j5), .second] [(.ref r0)])) rfl (by rw [hml]; rfl) rfl (hb hby d5_1) (by decide) (W := 0) (by show 2 * 0 + _ ≤ _; exact Nat.le_of_eq rfl) (by decide)
  obtain ⟨T2, h2, X2, e2, W2, st2⟩ := putF X1 hx hZ hown (host := "") (Or.inl (hw _ (List.mem_of_getElem? (i := 33) rfl))) Via.refl e1 F_errors_r0 E_r0 (Or.inr ⟨(hw _ (List.mem_of_getElem? (i := 34) rfl)), rfl, hnm⟩) (hw _ (List.mem_of_getElem? (i := 27) rfl)) (ty := (.object "java/util/List")) (by decide) rfl rfl (g := (mkF m 6 #[.val (.ref r0), .val (.ref r1), .val (.int i2), .val (.long j3), .second, .val (.int i4), .val (.long j5), .second] [(.ref r1), (.ref r0)])) rfl rfl (hb hby d5_6)
  have N2 := Fr.snoc X2 N0 g_r0
  have K3 : Keep h0 h2 [r0] := (Keep.refl h0 [r0]).wr W2 (Or.inl (List.mem_of_getElem? (i := 0) rfl))
  have F2 := F_errors_r0.same W2
  have f4 := (E_r0.wr W2)
  have f5 := (F_statements_r0.other W2 (Or.inr (slot_ne (Or.inr (hw _ (List.mem_of_getElem? (i := 36) rfl))) (Or.inr (hw _ (List.mem_of_getElem? (i := 34) rfl))) (by decide) (t := .int) (t' := (.object "java/util/List")) (by decide) (by decide))))
  obtain ⟨T6, h6, X6, e6, W6, st6⟩ := putF X2 hx hZ hown (host := "") (Or.inl (hw _ (List.mem_of_getElem? (i := 35) rfl))) Via.refl e2 f5 f4 (Or.inr ⟨(hw _ (List.mem_of_getElem? (i := 36) rfl)), rfl, hnm⟩) (hw _ (List.mem_of_getElem? (i := 27) rfl)) (ty := .int) (by decide) rfl rfl (g := (mkF m 11 #[.val (.ref r0), .val (.ref r1), .val (.int i2), .val (.long j3), .second, .val (.int i4), .val (.long j5), .second] [(.int i2), (.ref r0)])) rfl rfl (hb hby d5_11)
  have N6 := Fr.snoc X6 N2 g_r0
  have K7 : Keep h0 h6 [r0] := K3.wr W6 (Or.inl (List.mem_of_getElem? (i := 0) rfl))
  have F6 := f5.same W6
  have f8 := (f4.wr W6)
  have f9 := ((F_length_r0.other W2 (Or.inr (slot_ne (Or.inr (hw _ (List.mem_of_getElem? (i := 38) rfl))) (Or.inr (hw _ (List.mem_of_getElem? (i := 34) rfl))) (by decide) (t := .long) (t' := (.object "java/util/List")) (by decide) (by decide)))).other W6 (Or.inr (slot_ne (Or.inr (hw _ (List.mem_of_getElem? (i := 38) rfl))) (Or.inr (hw _ (List.mem_of_getElem? (i := 36) rfl))) (by decide) (t := .long) (t' := .int) (by decide) (by decide))))
  obtain ⟨T10, h10, X10, e10, W10, st10⟩ := putF X6 hx hZ hown (host := "") (Or.inl (hw _ (List.mem_of_getElem? (i := 37) rfl))) Via.refl e6 f9 f8 (Or.inr ⟨(hw _ (List.mem_of_getElem? (i := 38) rfl)), rfl, hnm⟩) (hw _ (List.mem_of_getElem? (i := 27) rfl)) (ty := .long) (by decide) rfl rfl (g := (mkF m 16 #[.val (.ref r0), .val (.ref r1), .val (.int i2), .val (.long j3), .second, .val (.int i4), .val (.long j5), .second] [(.long j3), (.ref r0)])) rfl rfl (hb hby d5_16)
  have N10 := Fr.snoc X10 N6 g_r0
  have K11 : Keep h0 h10 [r0] := K7.wr W10 (Or.inl (List.mem_of_getElem? (i := 0) rfl))
  have F10 := f9.same W10
  have f12 := (f8.wr W10)
  have f13 := (((F_unfinishedLine_r0.other W2 (Or.inr (slot_ne (Or.inr (hw _ (List.mem_of_getElem? (i := 40) rfl))) (Or.inr (hw _ (List.mem_of_getElem? (i := 34) rfl))) (by decide) (t := .int) (t' := (.object "java/util/List")) (by decide) (by decide)))).other W6 (Or.inr (slot_ne (Or.inr (hw _ (List.mem_of_getElem? (i := 40) rfl))) (Or.inr (hw _ (List.mem_of_getElem? (i := 36) rfl))) (by decide) (t := .int) (t' := .int) (by decide) (by decide)))).other W10 (Or.inr (slot_ne (Or.inr (hw _ (List.mem_of_getElem? (i := 40) rfl))) (Or.inr (hw _ (List.mem_of_getElem? (i := 38) rfl))) (by decide) (t := .int) (t' := .long) (by decide) (by decide))))
  obtain ⟨T14, h14, X14, e14, W14, st14⟩ := putF X10 hx hZ hown (host := "") (Or.inl (hw _ (List.mem_of_getElem? (i := 39) rfl))) Via.refl e10 f13 f12 (Or.inr ⟨(hw _ (List.mem_of_getElem? (i := 40) rfl)), rfl, hnm⟩) (hw _ (List.mem_of_getElem? (i := 27) rfl)) (ty := .int) (by decide) rfl rfl (g := (mkF m 22 #[.val (.ref r0), .val (.ref r1), .val (.int i2), .val (.long j3), .second, .val (.int i4), .val (.long j5), .second] [(.int i4), (.ref r0)])) rfl rfl (hb hby d5_22)
  have N14 := Fr.snoc X14 N10 g_r0
  have K15 : Keep h0 h14 [r0] := K11.wr W14 (Or.inl (List.mem_of_getElem? (i := 0) rfl))
  have F14 := f13.same W14
  have f16 := (f12.wr W14)
  have f17 := ((((F_unfinishedOffset_r0.other W2 (Or.inr (slot_ne (Or.inr (hw _ (List.mem_of_getElem? (i := 42) rfl))) (Or.inr (hw _ (List.mem_of_getElem? (i := 34) rfl))) (by decide) (t := .long) (t' := (.object "java/util/List")) (by decide) (by decide)))).other W6 (Or.inr (slot_ne (Or.inr (hw _ (List.mem_of_getElem? (i := 42) rfl))) (Or.inr (hw _ (List.mem_of_getElem? (i := 36) rfl))) (by decide) (t := .long) (t' := .int) (by decide) (by decide)))).other W10 (Or.inr (slot_ne (Or.inr (hw _ (List.mem_of_getElem? (i := 42) rfl))) (Or.inr (hw _ (List.mem_of_getElem? (i := 38) rfl))) (by decide) (t := .long) (t' := .long) (by decide) (by decide)))).other W14 (Or.inr (slot_ne (Or.inr (hw _ (List.mem_of_getElem? (i := 42) rfl))) (Or.inr (hw _ (List.mem_of_getElem? (i := 40) rfl))) (by decide) (t := .long) (t' := .int) (by decide) (by decide))))
  obtain ⟨T18, h18, X18, e18, W18, st18⟩ := putF X14 hx hZ hown (host := "") (Or.inl (hw _ (List.mem_of_getElem? (i := 41) rfl))) Via.refl e14 f17 f16 (Or.inr ⟨(hw _ (List.mem_of_getElem? (i := 42) rfl)), rfl, hnm⟩) (hw _ (List.mem_of_getElem? (i := 27) rfl)) (ty := .long) (by decide) rfl rfl (g := (mkF m 28 #[.val (.ref r0), .val (.ref r1), .val (.int i2), .val (.long j3), .second, .val (.int i4), .val (.long j5), .second] [(.long j5), (.ref r0)])) rfl rfl (hb hby d5_28)
  have N18 := Fr.snoc X18 N14 g_r0
  have K19 : Keep h0 h18 [r0] := K15.wr W18 (Or.inl (List.mem_of_getElem? (i := 0) rfl))
  have F18 := f17.same W18
  have pre20 : ∀ t, Steps p.tables e below (T18.setTop (mkF m 31 #[.val (.ref r0), .val (.ref r1), .val (.int i2), .val (.long j3), .second, .val (.int i4), .val (.long j5), .second] [])) t → Steps p.tables e below (s₁.setTop (entryFrame m #[(.ref r0), (.ref r1), (.int i2), (.long j3), (.int i4), (.long j5)] 8)) t := by
    intro t k
    refine pre0 _ ?_
    show Steps p.tables e below (s₁.setTop (mkF m 0 #[.val (.ref r0), .val (.ref r1), .val (.int i2), .val (.long j3), .second, .val (.int i4), .val (.long j5), .second] [])) _
    refine XS.aloadN X0.here hx rfl (hb hby d5_0) rfl rfl ?_
    show Steps p.tables e below (s₁.setTop (mkF m 1 #[.val (.ref r0), .val (.ref r1), .val (.int i2), .val (.long j3), .second, .val (.int i4), .val (.long j5), .second] [(.ref r0)])) _
    refine st1 _ ?_
    show Steps p.tables e below (T1.setTop (mkF m 4 #[.val (.ref r0), .val (.ref r1), .val (.int i2), .val (.long j3), .second, .val (.int i4), .val (.long j5), .second] [])) _
    refine XS.aloadN X1.here hx rfl (hb hby d5_4) rfl rfl ?_
    show Steps p.tables e below (T1.setTop (mkF m 5 #[.val (.ref r0), .val (.ref r1), .val (.int i2), .val (.long j3), .second, .val (.int i4), .val (.long j5), .second] [(.ref r0)])) _
    refine XS.aloadN X1.here hx rfl (hb hby d5_5) rfl rfl ?_
    show Steps p.tables e below (T1.setTop (mkF m 6 #[.val (.ref r0), .val (.ref r1), .val (.int i2), .val (.long j3), .second, .val (.int i4), .val (.long j5), .second] [(.ref r1), (.ref r0)])) _
    refine st2 _ ?_
    show Steps p.tables e below (T2.setTop (mkF m 9 #[.val (.ref r0), .val (.ref r1), .val (.int i2), .val (.long j3), .second, .val (.int i4), .val (.long j5), .second] [])) _
    refine XS.aloadN X2.here hx rfl (hb hby d5_9) rfl rfl ?_
    show Steps p.tables e below (T2.setTop (mkF m 10 #[.val (.ref r0), .val (.ref r1), .val (.int i2), .val (.long j3), .second, .val (.int i4), .val (.long j5), .second] [(.ref r0)])) _
    refine XS.iloadN X2.here hx rfl (hb hby d5_10) rfl ?_
    show Steps p.tables e below (T2.setTop (mkF m 11 #[.val (.ref r0), .val (.ref r1), .val (.int i2), .val (.long j3), .second, .val (.int i4), .val (.long j5), .second] [(.int i2), (.ref r0)])) _
    refine st6 _ ?_
    show Steps p.tables e below (T6.setTop (mkF m 14 #[.val (.ref r0), .val (.ref r1), .val (.int i2), .val (.long j3), .second, .val (.int i4), .val (.long j5), .second] [])) _
    refine XS.aloadN X6.here hx rfl (hb hby d5_14) rfl rfl ?_
    show Steps p.tables e below (T6.setTop (mkF m 15 #[.val (.ref r0), .val (.ref r1), .val (.int i2), .val (.long j3), .second, .val (.int i4), .val (.long j5), .second] [(.ref r0)])) _
    refine XS.lloadN X6.here hx rfl (hb hby d5_15) rfl ?_
    show Steps p.tables e below (T6.setTop (mkF m 16 #[.val (.ref r0), .val (.ref r1), .val (.int i2), .val (.long j3), .second, .val (.int i4), .val (.long j5), .second] [(.long j3), (.ref r0)])) _
    refine st10 _ ?_
    show Steps p.tables e below (T10.setTop (mkF m 19 #[.val (.ref r0), .val (.ref r1), .val (.int i2), .val (.long j3), .second, .val (.int i4), .val (.long j5), .second] [])) _
    refine XS.aloadN X10.here hx rfl (hb hby d5_19) rfl rfl ?_
    show Steps p.tables e below (T10.setTop (mkF m 20 #[.val (.ref r0), .val (.ref r1), .val (.int i2), .val (.long j3), .second, .val (.int i4), .val (.long j5), .second] [(.ref r0)])) _
    refine XS.iload X10.here hx rfl (hb hby d5_20) rfl ?_
    show Steps p.tables e below (T10.setTop (mkF m 22 #[.val (.ref r0), .val (.ref r1), .val (.int i2), .val (.long j3), .second, .val (.int i4), .val (.long j5), .second] [(.int i4), (.ref r0)])) _
    refine st14 _ ?_
    show Steps p.tables e below (T14.setTop (mkF m 25 #[.val (.ref r0), .val (.ref r1), .val (.int i2), .val (.long j3), .second, .val (.int i4), .val (.long j5), .second] [])) _
    refine XS.aloadN X14.here hx rfl (hb hby d5_25) rfl rfl ?_
    show Steps p.tables e below (T14.setTop (mkF m 26 #[.val (.ref r0), .val (.ref r1), .val (.int i2), .val (.long j3), .second, .val (.int i4), .val (.long j5), .second] [(.ref r0)])) _
    refine XS.lload X14.here hx rfl (hb hby d5_26) rfl ?_
    show Steps p.tables e below (T14.setTop (mkF m 28 #[.val (.ref r0), .val (.ref r1), .val (.int i2), .val (.long j3), .second, .val (.int i4), .val (.long j5), .second] [(.long j5), (.ref r0)])) _
    refine st18 _ ?_
    exact k
  have f21 := (f16.wr W18)
  have f22 := ((((F2.other W6 (Or.inr (slot_ne (Or.inr (hw _ (List.mem_of_getElem? (i := 34) rfl))) (Or.inr (hw _ (List.mem_of_getElem? (i := 36) rfl))) (by decide) (t := (.object "java/util/List")) (t' := .int) (by decide) (by decide)))).other W10 (Or.inr (slot_ne (Or.inr (hw _ (List.mem_of_getElem? (i := 34) rfl))) (Or.inr (hw _ (List.mem_of_getElem? (i := 38) rfl))) (by decide) (t := (.object "java/util/List")) (t' := .long) (by decide) (by decide)))).other W14 (Or.inr (slot_ne (Or.inr (hw _ (List.mem_of_getElem? (i := 34) rfl))) (Or.inr (hw _ (List.mem_of_getElem? (i := 40) rfl))) (by decide) (t := (.object "java/util/List")) (t' := .int) (by decide) (by decide)))).other W18 (Or.inr (slot_ne (Or.inr (hw _ (List.mem_of_getElem? (i := 34) rfl))) (Or.inr (hw _ (List.mem_of_getElem? (i := 42) rfl))) (by decide) (t := (.object "java/util/List")) (t' := .long) (by decide) (by decide))))
  have f23 := (((F6.other W10 (Or.inr (slot_ne (Or.inr (hw _ (List.mem_of_getElem? (i := 36) rfl))) (Or.inr (hw _ (List.mem_of_getElem? (i := 38) rfl))) (by decide) (t := .int) (t' := .long) (by decide) (by decide)))).other W14 (Or.inr (slot_ne (Or.inr (hw _ (List.mem_of_getElem? (i := 36) rfl))) (Or.inr (hw _ (List.mem_of_getElem? (i := 40) rfl))) (by decide) (t := .int) (t' := .int) (by decide) (by decide)))).other W18 (Or.inr (slot_ne (Or.inr (hw _ (List.mem_of_getElem? (i := 36) rfl))) (Or.inr (hw _ (List.mem_of_getElem? (i := 42) rfl))) (by decide) (t := .int) (t' := .long) (by decide) (by decide))))
  have f24 := ((F10.other W14 (Or.inr (slot_ne (Or.inr (hw _ (List.mem_of_getElem? (i := 38) rfl))) (Or.inr (hw _ (List.mem_of_getElem? (i := 40) rfl))) (by decide) (t := .long) (t' := .int) (by decide) (by decide)))).other W18 (Or.inr (slot_ne (Or.inr (hw _ (List.mem_of_getElem? (i := 38) rfl))) (Or.inr (hw _ (List.mem_of_getElem? (i := 42) rfl))) (by decide) (t := .long) (t' := .long) (by decide) (by decide))))
  have f25 := (F14.other W18 (Or.inr (slot_ne (Or.inr (hw _ (List.mem_of_getElem? (i := 40) rfl))) (Or.inr (hw _ (List.mem_of_getElem? (i := 42) rfl))) (by decide) (t := .int) (t' := .long) (by decide) (by decide))))
  obtain ⟨fs, hr, hrun, hended, hW, hsame⟩ := X18.leave (v := none) (fun _ => rfl)
  refine ⟨_, _, pre20 _ ?_, hrun, hended, _, _, rfl, ?_, ⟨_, rfl⟩, hW, hsame.mono (by decide) (by decide)⟩
  · show Steps p.tables e below (T18.setTop (mkF m 31 #[.val (.ref r0), .val (.ref r1), .val (.int i2), .val (.long j3), .second, .val (.int i4), .val (.long j5), .second] [])) _
    exact X18.returnOut hx Bd.returns (hb hby d5_31) hr
  · show Q5 Z r0 r1 i2 j3 i4 j5 u_errors_r0 u_statements_r0 u_length_r0 u_unfinishedLine_r0 u_unfinishedOffset_r0 h0 n0 _ T18.heap _
    rw [e18]
    exact ⟨rfl, N18, K19, f21, f22, f23, f24, f25, F18⟩
def own_j6_4_0 (w_unfinishedLine_r0 : Int32) (w_length_r0 : Int64) (w_unfinishedOffset_r0 : Int64) : Int64 := (if w_unfinishedLine_r0 = (0 : Int32) then w_length_r0 else w_unfinishedOffset_r0)
def Q6 (Z : State) (r0 : Addr) (w_unfinishedLine_r0 : Int32) (w_length_r0 : Int64) (w_unfinishedOffset_r0 : Int64) (h0 : Heap) (n0 : Nat) (v : Option Value) (h : Heap) (L : List Loc) : Prop := v = some (.long (own_j6_4_0 w_unfinishedLine_r0 w_length_r0 w_unfinishedOffset_r0)) ∧ Fr n0 L ∧ h = h0
theorem ef_6 (m : MethodId) (x0 : Addr) : entryFrame m #[(.ref x0)] 1 = mkF m 0 #[.val (.ref x0)] [] := by first | (simp [entryFrame, mkF, argsToLocals, Value.category]; done) | rfl
set_option maxRecDepth 65536 in
set_option maxHeartbeats 40000000 in
theorem rm6 (l : Launch) (Z : State) (a0 : Array Value) (hw : ∀ d ∈ tables_1, d.before a0 Z = true) (ws : List Jvm.Cond) (r0 : Addr) (w_unfinishedLine_r0 : Int32) (w_length_r0 : Int64) (w_unfinishedOffset_r0 : Int64) (h0 : Heap) (n0 : Nat) (Z0 : n0 ≤ h0.size) (F_unfinishedLine_r0 : Fld Z h0 r0 "com/example/arpol/arpol/PolicyReading" "unfinishedLine" "I" (.int w_unfinishedLine_r0)) (F_length_r0 : Fld Z h0 r0 "com/example/arpol/arpol/PolicyReading" "length" "J" (.long w_length_r0)) (F_unfinishedOffset_r0 : Fld Z h0 r0 "com/example/arpol/arpol/PolicyReading" "unfinishedOffset" "J" (.long w_unfinishedOffset_r0)) :
    MetFree l (⟨"com/example/arpol/arpol/PolicyReading", "finishedLength", "()J"⟩ : MethodName) (head1 (Jvm.Cond.code (⟨"com/example/arpol/arpol/PolicyReading", "finishedLength", "()J"⟩ : MethodName) prog_11_method_6_code 1 (some .long) :: ws) ({ frames := 0, cells := 0, slots := 0, locals := 0 } : Room)) (fun a U => a = #[(.ref r0)] ∧ Z.Warmed39 U.vm ∧ U.heap = h0) (fun _ _ _ _ _ => True) (fun _ U o U' => ∃ v L, o = .returned v ∧ Q6 Z r0 w_unfinishedLine_r0 w_length_r0 w_unfinishedOffset_r0 h0 n0 v U'.heap L ∧ FrameEnd U o U' L ({ frames := 0, cells := 0, slots := 0, locals := 0 } : Room).cells ({ frames := 0, cells := 0, slots := 0, locals := 0 } : Room).slots) := by
  refine MetFree.of_bodySF (plainFor_of_name pn_3) hisR ?_
  intro p e s m args below meth c s₁ Bd hml0 hP hK
  obtain ⟨rfl, hZ, hh⟩ := hP
  have hx := Bd.exec
  have hby := Bd.bytes
  have hml : c.maxLocals = 1 := hml0
  have hown : s.vm.findClass "com/example/arpol/arpol/PolicyReading" = some m.cls := findClass_of_methodNamed Bd.named
  have hnm := (name_of_methodNamed Bd.named Bd.method).1
  have X0 : Stand p l e ({ frames := 0, cells := 0, slots := 0, locals := 0 } : Room) s m #[(.ref r0)] below meth c s₁ [] 0 0 := Stand.of_body Bd
  have e0 : s₁.heap = h0 := by rw [← hh, Bd.state]; rfl
  have N0 := Fr.nil n0
  have pre0 : ∀ t, Steps p.tables e below (s₁.setTop (mkF m 0 #[.val (.ref r0)] [])) t → Steps p.tables e below (s₁.setTop (entryFrame m #[(.ref r0)] 1)) t := fun t k => castTop (ef_6 m r0) k
  obtain ⟨T1, X1, e1, st1⟩ := getF X0 hx hZ hown (host := "") (Or.inl (hw _ (List.mem_of_getElem? (i := 39) rfl))) Via.refl e0 F_unfinishedLine_r0 (g := (mkF m 1 #[.val (.ref r0)] [(.ref r0)])) rfl rfl (hb hby d6_1)
  have pre2 : ∀ t, Steps p.tables e below (T1.setTop (mkF m 4 #[.val (.ref r0)] [(.int w_unfinishedLine_r0)])) t → Steps p.tables e below (s₁.setTop (entryFrame m #[(.ref r0)] 1)) t := by
    intro t k
    refine pre0 _ ?_
    show Steps p.tables e below (s₁.setTop (mkF m 0 #[.val (.ref r0)] [])) _
    refine XS.aloadN X0.here hx rfl (hb hby d6_0) rfl rfl ?_
    show Steps p.tables e below (s₁.setTop (mkF m 1 #[.val (.ref r0)] [(.ref r0)])) _
    refine st1 _ ?_
    exact k
  obtain ⟨T8, Lq8, X8, N8, e8, pre8⟩ : ∃ (T' : State) (locs' : List Loc), Stand p l e ({ frames := 0, cells := 0, slots := 0, locals := 0 } : Room) s m #[(.ref r0)] below meth c T' locs' 0 0 ∧ Fr n0 locs' ∧ T'.heap = h0 ∧ ∀ t, Steps p.tables e below (T'.setTop (mkF m 18 #[.val (.ref r0)] [(.long (own_j6_4_0 w_unfinishedLine_r0 w_length_r0 w_unfinishedOffset_r0))])) t → Steps p.tables e below (s₁.setTop (entryFrame m #[(.ref r0)] 1)) t := by
    by_cases hc4_3 : w_unfinishedLine_r0 = (0 : Int32)
    · obtain ⟨T4, X4, e4, st4⟩ := getF X1 hx hZ hown (host := "") (Or.inl (hw _ (List.mem_of_getElem? (i := 37) rfl))) Via.refl e1 F_length_r0 (g := (mkF m 8 #[.val (.ref r0)] [(.ref r0)])) rfl rfl (hb hby d6_8)
      have pre5 : ∀ t, Steps p.tables e below (T4.setTop (mkF m 18 #[.val (.ref r0)] [(.long w_length_r0)])) t → Steps p.tables e below (s₁.setTop (entryFrame m #[(.ref r0)] 1)) t := by
        intro t k
        refine pre2 _ ?_
        show Steps p.tables e below (T1.setTop (mkF m 4 #[.val (.ref r0)] [(.int w_unfinishedLine_r0)])) _
        refine XS.ifNo X1.here hx rfl (hb hby d6_4) rfl ((if0 _ _).trans (teq hc4_3).2) ?_
        show Steps p.tables e below (T1.setTop (mkF m 7 #[.val (.ref r0)] [])) _
        refine XS.aloadN X1.here hx rfl (hb hby d6_7) rfl rfl ?_
        show Steps p.tables e below (T1.setTop (mkF m 8 #[.val (.ref r0)] [(.ref r0)])) _
        refine st4 _ ?_
        show Steps p.tables e below (T4.setTop (mkF m 11 #[.val (.ref r0)] [(.long w_length_r0)])) _
        refine XS.goto X4.here hx rfl (pc0 := 11) (pc' := 18) rfl (hb hby d6_11) (by decide) (by decide) ?_
        exact k
      exact ⟨T4, _, X4, N0, e4, fun t k => pre5 t (by rw [show (own_j6_4_0 w_unfinishedLine_r0 w_length_r0 w_unfinishedOffset_r0) = w_length_r0 from (if_pos hc4_3)] at k; exact k)⟩
    · obtain ⟨T6, X6, e6, st6⟩ := getF X1 hx hZ hown (host := "") (Or.inl (hw _ (List.mem_of_getElem? (i := 41) rfl))) Via.refl e1 F_unfinishedOffset_r0 (g := (mkF m 15 #[.val (.ref r0)] [(.ref r0)])) rfl rfl (hb hby d6_15)
      have pre7 : ∀ t, Steps p.tables e below (T6.setTop (mkF m 18 #[.val (.ref r0)] [(.long w_unfinishedOffset_r0)])) t → Steps p.tables e below (s₁.setTop (entryFrame m #[(.ref r0)] 1)) t := by
        intro t k
        refine pre2 _ ?_
        show Steps p.tables e below (T1.setTop (mkF m 4 #[.val (.ref r0)] [(.int w_unfinishedLine_r0)])) _
        refine XS.ifYes X1.here hx rfl (pc0 := 4) (pc' := 14) rfl (hb hby d6_4) rfl ((if0 _ _).trans (feq hc4_3).2) (by decide) (by decide) ?_
        show Steps p.tables e below (T1.setTop (mkF m 14 #[.val (.ref r0)] [])) _
        refine XS.aloadN X1.here hx rfl (hb hby d6_14) rfl rfl ?_
        show Steps p.tables e below (T1.setTop (mkF m 15 #[.val (.ref r0)] [(.ref r0)])) _
        refine st6 _ ?_
        exact k
      exact ⟨T6, _, X6, N0, e6, fun t k => pre7 t (by rw [show (own_j6_4_0 w_unfinishedLine_r0 w_length_r0 w_unfinishedOffset_r0) = w_unfinishedOffset_r0 from (if_neg hc4_3)] at k; exact k)⟩
  obtain ⟨fs, hr, hrun, hended, hW, hsame⟩ := X8.leave (v := some (.long (own_j6_4_0 w_unfinishedLine_r0 w_length_r0 w_unfinishedOffset_r0))) (fun h => by rw [Bd.returns] at h; cases h)
  refine ⟨_, _, pre8 _ ?_, hrun, hended, _, _, rfl, ?_, ⟨_, rfl⟩, hW, hsame.mono (by decide) (by decide)⟩
  · show Steps p.tables e below (T8.setTop (mkF m 18 #[.val (.ref r0)] [(.long (own_j6_4_0 w_unfinishedLine_r0 w_length_r0 w_unfinishedOffset_r0))])) _
    jvm_step X8.here [X8.here.top, hx, (hb hby d6_18), X8.method', Bd.returns, narrow]
    first | (intro acts; rw [hr _ acts rfl rfl rfl]) | rw [hr _ _ rfl rfl rfl]
    exact Steps.refl _
  · show Q6 Z r0 w_unfinishedLine_r0 w_length_r0 w_unfinishedOffset_r0 h0 n0 _ T8.heap _
    rw [e8]
    exact ⟨rfl, N8, rfl⟩
def Q8 (Z : State) (r0 : Addr) (w_length_r0 : Int64) (h0 : Heap) (n0 : Nat) (v : Option Value) (h : Heap) (L : List Loc) : Prop := v = some (.long w_length_r0) ∧ Fr n0 L ∧ h = h0
theorem ef_8 (m : MethodId) (x0 : Addr) : entryFrame m #[(.ref x0)] 1 = mkF m 0 #[.val (.ref x0)] [] := by first | (simp [entryFrame, mkF, argsToLocals, Value.category]; done) | rfl
set_option maxRecDepth 65536 in
set_option maxHeartbeats 40000000 in
theorem rm8 (l : Launch) (Z : State) (a0 : Array Value) (hw : ∀ d ∈ tables_1, d.before a0 Z = true) (ws : List Jvm.Cond) (r0 : Addr) (w_length_r0 : Int64) (h0 : Heap) (n0 : Nat) (Z0 : n0 ≤ h0.size) (F_length_r0 : Fld Z h0 r0 "com/example/arpol/arpol/PolicyReading" "length" "J" (.long w_length_r0)) :
    MetFree l (⟨"com/example/arpol/arpol/PolicyReading", "length", "()J"⟩ : MethodName) (head1 (Jvm.Cond.code (⟨"com/example/arpol/arpol/PolicyReading", "length", "()J"⟩ : MethodName) prog_11_method_4_code 1 (some .long) :: ws) ({ frames := 0, cells := 0, slots := 0, locals := 0 } : Room)) (fun a U => a = #[(.ref r0)] ∧ Z.Warmed39 U.vm ∧ U.heap = h0) (fun _ _ _ _ _ => True) (fun _ U o U' => ∃ v L, o = .returned v ∧ Q8 Z r0 w_length_r0 h0 n0 v U'.heap L ∧ FrameEnd U o U' L ({ frames := 0, cells := 0, slots := 0, locals := 0 } : Room).cells ({ frames := 0, cells := 0, slots := 0, locals := 0 } : Room).slots) := by
  refine MetFree.of_bodySF (plainFor_of_name pn_3) hisR ?_
  intro p e s m args below meth c s₁ Bd hml0 hP hK
  obtain ⟨rfl, hZ, hh⟩ := hP
  have hx := Bd.exec
  have hby := Bd.bytes
  have hml : c.maxLocals = 1 := hml0
  have hown : s.vm.findClass "com/example/arpol/arpol/PolicyReading" = some m.cls := findClass_of_methodNamed Bd.named
  have hnm := (name_of_methodNamed Bd.named Bd.method).1
  have X0 : Stand p l e ({ frames := 0, cells := 0, slots := 0, locals := 0 } : Room) s m #[(.ref r0)] below meth c s₁ [] 0 0 := Stand.of_body Bd
  have e0 : s₁.heap = h0 := by rw [← hh, Bd.state]; rfl
  have N0 := Fr.nil n0
  have pre0 : ∀ t, Steps p.tables e below (s₁.setTop (mkF m 0 #[.val (.ref r0)] [])) t → Steps p.tables e below (s₁.setTop (entryFrame m #[(.ref r0)] 1)) t := fun t k => castTop (ef_8 m r0) k
  obtain ⟨T1, X1, e1, st1⟩ := getF X0 hx hZ hown (host := "") (Or.inl (hw _ (List.mem_of_getElem? (i := 37) rfl))) Via.refl e0 F_length_r0 (g := (mkF m 1 #[.val (.ref r0)] [(.ref r0)])) rfl rfl (hb hby d8_1)
  have pre2 : ∀ t, Steps p.tables e below (T1.setTop (mkF m 4 #[.val (.ref r0)] [(.long w_length_r0)])) t → Steps p.tables e below (s₁.setTop (entryFrame m #[(.ref r0)] 1)) t := by
    intro t k
    refine pre0 _ ?_
    show Steps p.tables e below (s₁.setTop (mkF m 0 #[.val (.ref r0)] [])) _
    refine XS.aloadN X0.here hx rfl (hb hby d8_0) rfl rfl ?_
    show Steps p.tables e below (s₁.setTop (mkF m 1 #[.val (.ref r0)] [(.ref r0)])) _
    refine st1 _ ?_
    exact k
  obtain ⟨fs, hr, hrun, hended, hW, hsame⟩ := X1.leave (v := some (.long w_length_r0)) (fun h => by rw [Bd.returns] at h; cases h)
  refine ⟨_, _, pre2 _ ?_, hrun, hended, _, _, rfl, ?_, ⟨_, rfl⟩, hW, hsame.mono (by decide) (by decide)⟩
  · show Steps p.tables e below (T1.setTop (mkF m 4 #[.val (.ref r0)] [(.long w_length_r0)])) _
    jvm_step X1.here [X1.here.top, hx, (hb hby d8_4), X1.method', Bd.returns, narrow]
    first | (intro acts; rw [hr _ acts rfl rfl rfl]) | rw [hr _ _ rfl rfl rfl]
    exact Steps.refl _
  · show Q8 Z r0 w_length_r0 h0 n0 _ T1.heap _
    rw [e1]
    exact ⟨rfl, N0, rfl⟩
def Q7 (Z : State) (r0 : Addr) (w_unfinishedLine_r0 : Int32) (h0 : Heap) (n0 : Nat) (v : Option Value) (h : Heap) (L : List Loc) : Prop := v = some (.int w_unfinishedLine_r0) ∧ Fr n0 L ∧ h = h0
theorem ef_7 (m : MethodId) (x0 : Addr) : entryFrame m #[(.ref x0)] 1 = mkF m 0 #[.val (.ref x0)] [] := by first | (simp [entryFrame, mkF, argsToLocals, Value.category]; done) | rfl
set_option maxRecDepth 65536 in
set_option maxHeartbeats 40000000 in
theorem rm7 (l : Launch) (Z : State) (a0 : Array Value) (hw : ∀ d ∈ tables_1, d.before a0 Z = true) (ws : List Jvm.Cond) (r0 : Addr) (w_unfinishedLine_r0 : Int32) (h0 : Heap) (n0 : Nat) (Z0 : n0 ≤ h0.size) (F_unfinishedLine_r0 : Fld Z h0 r0 "com/example/arpol/arpol/PolicyReading" "unfinishedLine" "I" (.int w_unfinishedLine_r0)) :
    MetFree l (⟨"com/example/arpol/arpol/PolicyReading", "unfinishedLine", "()I"⟩ : MethodName) (head1 (Jvm.Cond.code (⟨"com/example/arpol/arpol/PolicyReading", "unfinishedLine", "()I"⟩ : MethodName) prog_11_method_5_code 1 (some .int) :: ws) ({ frames := 0, cells := 0, slots := 0, locals := 0 } : Room)) (fun a U => a = #[(.ref r0)] ∧ Z.Warmed39 U.vm ∧ U.heap = h0) (fun _ _ _ _ _ => True) (fun _ U o U' => ∃ v L, o = .returned v ∧ Q7 Z r0 w_unfinishedLine_r0 h0 n0 v U'.heap L ∧ FrameEnd U o U' L ({ frames := 0, cells := 0, slots := 0, locals := 0 } : Room).cells ({ frames := 0, cells := 0, slots := 0, locals := 0 } : Room).slots) := by
  refine MetFree.of_bodySF (plainFor_of_name pn_3) hisR ?_
  intro p e s m args below meth c s₁ Bd hml0 hP hK
  obtain ⟨rfl, hZ, hh⟩ := hP
  have hx := Bd.exec
  have hby := Bd.bytes
  have hml : c.maxLocals = 1 := hml0
  have hown : s.vm.findClass "com/example/arpol/arpol/PolicyReading" = some m.cls := findClass_of_methodNamed Bd.named
  have hnm := (name_of_methodNamed Bd.named Bd.method).1
  have X0 : Stand p l e ({ frames := 0, cells := 0, slots := 0, locals := 0 } : Room) s m #[(.ref r0)] below meth c s₁ [] 0 0 := Stand.of_body Bd
  have e0 : s₁.heap = h0 := by rw [← hh, Bd.state]; rfl
  have N0 := Fr.nil n0
  have pre0 : ∀ t, Steps p.tables e below (s₁.setTop (mkF m 0 #[.val (.ref r0)] [])) t → Steps p.tables e below (s₁.setTop (entryFrame m #[(.ref r0)] 1)) t := fun t k => castTop (ef_7 m r0) k
  obtain ⟨T1, X1, e1, st1⟩ := getF X0 hx hZ hown (host := "") (Or.inl (hw _ (List.mem_of_getElem? (i := 39) rfl))) Via.refl e0 F_unfinishedLine_r0 (g := (mkF m 1 #[.val (.ref r0)] [(.ref r0)])) rfl rfl (hb hby d7_1)
  have pre2 : ∀ t, Steps p.tables e below (T1.setTop (mkF m 4 #[.val (.ref r0)] [(.int w_unfinishedLine_r0)])) t → Steps p.tables e below (s₁.setTop (entryFrame m #[(.ref r0)] 1)) t := by
    intro t k
    refine pre0 _ ?_
    show Steps p.tables e below (s₁.setTop (mkF m 0 #[.val (.ref r0)] [])) _
    refine XS.aloadN X0.here hx rfl (hb hby d7_0) rfl rfl ?_
    show Steps p.tables e below (s₁.setTop (mkF m 1 #[.val (.ref r0)] [(.ref r0)])) _
    refine st1 _ ?_
    exact k
  obtain ⟨fs, hr, hrun, hended, hW, hsame⟩ := X1.leave (v := some (.int w_unfinishedLine_r0)) (fun h => by rw [Bd.returns] at h; cases h)
  refine ⟨_, _, pre2 _ ?_, hrun, hended, _, _, rfl, ?_, ⟨_, rfl⟩, hW, hsame.mono (by decide) (by decide)⟩
  · show Steps p.tables e below (T1.setTop (mkF m 4 #[.val (.ref r0)] [(.int w_unfinishedLine_r0)])) _
    exact retI X1 hx Bd.returns (hb hby d7_4) hr
  · show Q7 Z r0 w_unfinishedLine_r0 h0 n0 _ T1.heap _
    rw [e1]
    exact ⟨rfl, N0, rfl⟩
def own_j0_3_0 (i1 : Int32) : Int32 := (if (i1 &&& (1 : Int32)) = (0 : Int32) then (0 : Int32) else (1 : Int32))
def own_j0_15_0 (i1 : Int32) (i2 : Int32) : Int32 := (if (own_j0_3_0 i1) = (0 : Int32) then i2 else (0 : Int32))
def own_j0_68_0 (i1 : Int32) (i2 : Int32) (j3 : Int64) (j4 : Int64) : Int32 := (if (own_j6_4_0 (own_j0_15_0 i1 i2) j3 j4) = j3 then (1 : Int32) else (0 : Int32))
def own_j0_101_0 (i1 : Int32) (i2 : Int32) (j3 : Int64) (j4 : Int64) : Int32 := (if (own_j6_4_0 (own_j0_15_0 i1 i2) j3 j4) = j4 then (1 : Int32) else (0 : Int32))
def own_r0 (i1 : Int32) (i2 : Int32) (j3 : Int64) (j4 : Int64) : Int32 := (if (own_j0_15_0 i1 i2) = (0 : Int32) then (nar .boolean (own_j0_68_0 i1 i2 j3 j4)) else (nar .boolean (own_j0_101_0 i1 i2 j3 j4)))
def Q0 (Z : State) (i1 : Int32) (i2 : Int32) (j3 : Int64) (j4 : Int64) (i5 : Int32) (w_DEFAULTCAPACITY_EMPTY_ELEMENTDATA : Addr) (h0 : Heap) (n0 : Nat) (v : Option Value) (h : Heap) (L : List Loc) : Prop := v = some (.int (own_r0 i1 i2 j3 j4)) ∧ Fr n0 L
theorem ef_0 (m : MethodId) (x0 : Int32) (x1 : Int32) (x2 : Int64) (x3 : Int64) (x4 : Int32) : entryFrame m #[(.int x0), (.int x1), (.long x2), (.long x3), (.int x4)] maxLocals = mkF m 0 #[.val (.int x0), .val (.int x1), .val (.long x2), .second, .val (.long x3), .second, .val (.int x4), .unset, .unset, .unset, .unset, .unset, .unset] [] := by first | (simp [entryFrame, mkF, argsToLocals, Value.category, maxLocals]; done) | rfl
set_option maxRecDepth 65536 in
set_option maxHeartbeats 40000000 in
theorem rm0 (l : Launch) (Z : State) (a0 : Array Value) (hw : ∀ d ∈ tables_1, d.before a0 Z = true) (ws : List Jvm.Cond) (i1 : Int32) (i2 : Int32) (j3 : Int64) (j4 : Int64) (i5 : Int32) (w_DEFAULTCAPACITY_EMPTY_ELEMENTDATA : Addr) (h0 : Heap) (n0 : Nat) (Z0 : n0 ≤ h0.size) (S_DEFAULTCAPACITY_EMPTY_ELEMENTDATA : Sta Z Z.heap "java/util/ArrayList" "DEFAULTCAPACITY_EMPTY_ELEMENTDATA" "[Ljava/lang/Object;" (.ref w_DEFAULTCAPACITY_EMPTY_ELEMENTDATA)) (O_ : Old Z n0 h0) :
    MetFree l x (head1 (Jvm.Cond.code x code maxLocals ret :: ws) room_1) (fun a U => a = #[(.int i1), (.int i2), (.long j3), (.long j4), (.int i5)] ∧ Z.Warmed39 U.vm ∧ U.heap = h0) (fun _ _ _ _ _ => True) (fun _ U o U' => ∃ v L, o = .returned v ∧ Q0 Z i1 i2 j3 j4 i5 w_DEFAULTCAPACITY_EMPTY_ELEMENTDATA h0 n0 v U'.heap L ∧ FrameEnd U o U' L room_1.cells room_1.slots) := by
  refine MetFree.of_bodySF (plainFor_of_name pn_4) hisR ?_
  intro p e s m args below meth c s₁ Bd hml0 hP hK
  obtain ⟨rfl, hZ, hh⟩ := hP
  have hx := Bd.exec
  have hby := Bd.bytes
  have hml : c.maxLocals = 13 := hml0
  have hown : s.vm.findClass "com/example/arpol/arpol/PolicyReadingFinishedLengthPinLaw" = some m.cls := findClass_of_methodNamed Bd.named
  have hnm := (name_of_methodNamed Bd.named Bd.method).1
  have X0 : Stand p l e room_1 s m #[(.int i1), (.int i2), (.long j3), (.long j4), (.int i5)] below meth c s₁ [] 0 0 := Stand.of_body Bd
  have e0 : s₁.heap = h0 := by rw [← hh, Bd.state]; rfl
  have N0 := Fr.nil n0
  have pre0 : ∀ t, Steps p.tables e below (s₁.setTop (mkF m 0 #[.val (.int i1), .val (.int i2), .val (.long j3), .second, .val (.long j4), .second, .val (.int i5), .unset, .unset, .unset, .unset, .unset, .unset] [])) t → Steps p.tables e below (s₁.setTop (entryFrame m #[(.int i1), (.int i2), (.long j3), (.long j4), (.int i5)] maxLocals)) t := fun t k => castTop (ef_0 m i1 i2 j3 j4 i5) k
  have pre1 : ∀ t, Steps p.tables e below (s₁.setTop (mkF m 3 #[.val (.int i1), .val (.int i2), .val (.long j3), .second, .val (.long j4), .second, .val (.int i5), .unset, .unset, .unset, .unset, .unset, .unset] [(.int (i1 &&& (1 : Int32)))])) t → Steps p.tables e below (s₁.setTop (entryFrame m #[(.int i1), (.int i2), (.long j3), (.long j4), (.int i5)] maxLocals)) t := by
    intro t k
    refine pre0 _ ?_
    show Steps p.tables e below (s₁.setTop (mkF m 0 #[.val (.int i1), .val (.int i2), .val (.long j3), .second, .val (.long j4), .second, .val (.int i5), .unset, .unset, .unset, .unset, .unset, .unset] [])) _
    refine XS.iloadN X0.here hx rfl (hb hby at_0) rfl ?_
    show Steps p.tables e below (s₁.setTop (mkF m 1 #[.val (.int i1), .val (.int i2), .val (.long j3), .second, .val (.long j4), .second, .val (.int i5), .unset, .unset, .unset, .unset, .unset, .unset] [(.int i1)])) _
    refine XS.iconst X0.here hx rfl (hb hby at_1) ?_
    show Steps p.tables e below (s₁.setTop (mkF m 2 #[.val (.int i1), .val (.int i2), .val (.long j3), .second, .val (.long j4), .second, .val (.int i5), .unset, .unset, .unset, .unset, .unset, .unset] [(.int (1 : Int32)), (.int i1)])) _
    refine XS.iand X0.here hx rfl (hb hby at_2) rfl ?_
    exact k
  have pre5 : ∀ t, Steps p.tables e below (s₁.setTop (mkF m 11 #[.val (.int i1), .val (.int i2), .val (.long j3), .second, .val (.long j4), .second, .val (.int i5), .unset, .unset, .unset, .unset, .unset, .unset] [(.int (own_j0_3_0 i1))])) t → Steps p.tables e below (s₁.setTop (entryFrame m #[(.int i1), (.int i2), (.long j3), (.long j4), (.int i5)] maxLocals)) t := by
    by_cases hc3_2 : (i1 &&& (1 : Int32)) = (0 : Int32)
    · have pre3 : ∀ t, Steps p.tables e below (s₁.setTop (mkF m 11 #[.val (.int i1), .val (.int i2), .val (.long j3), .second, .val (.long j4), .second, .val (.int i5), .unset, .unset, .unset, .unset, .unset, .unset] [(.int (0 : Int32))])) t → Steps p.tables e below (s₁.setTop (entryFrame m #[(.int i1), (.int i2), (.long j3), (.long j4), (.int i5)] maxLocals)) t := by
        intro t k
        refine pre1 _ ?_
        show Steps p.tables e below (s₁.setTop (mkF m 3 #[.val (.int i1), .val (.int i2), .val (.long j3), .second, .val (.long j4), .second, .val (.int i5), .unset, .unset, .unset, .unset, .unset, .unset] [(.int (i1 &&& (1 : Int32)))])) _
        refine XS.ifYes X0.here hx rfl (pc0 := 3) (pc' := 10) rfl (hb hby at_3) rfl ((if0 _ _).trans (teq hc3_2).1) (by decide) (by decide) ?_
        show Steps p.tables e below (s₁.setTop (mkF m 10 #[.val (.int i1), .val (.int i2), .val (.long j3), .second, .val (.long j4), .second, .val (.int i5), .unset, .unset, .unset, .unset, .unset, .unset] [])) _
        refine XS.iconst X0.here hx rfl (hb hby at_10) ?_
        exact k
      exact fun t k => pre3 t (by rw [show (own_j0_3_0 i1) = (0 : Int32) from (if_pos hc3_2)] at k; exact k)
    · have pre4 : ∀ t, Steps p.tables e below (s₁.setTop (mkF m 11 #[.val (.int i1), .val (.int i2), .val (.long j3), .second, .val (.long j4), .second, .val (.int i5), .unset, .unset, .unset, .unset, .unset, .unset] [(.int (1 : Int32))])) t → Steps p.tables e below (s₁.setTop (entryFrame m #[(.int i1), (.int i2), (.long j3), (.long j4), (.int i5)] maxLocals)) t := by
        intro t k
        refine pre1 _ ?_
        show Steps p.tables e below (s₁.setTop (mkF m 3 #[.val (.int i1), .val (.int i2), .val (.long j3), .second, .val (.long j4), .second, .val (.int i5), .unset, .unset, .unset, .unset, .unset, .unset] [(.int (i1 &&& (1 : Int32)))])) _
        refine XS.ifNo X0.here hx rfl (hb hby at_3) rfl ((if0 _ _).trans (feq hc3_2).1) ?_
        show Steps p.tables e below (s₁.setTop (mkF m 6 #[.val (.int i1), .val (.int i2), .val (.long j3), .second, .val (.long j4), .second, .val (.int i5), .unset, .unset, .unset, .unset, .unset, .unset] [])) _
        refine XS.iconst X0.here hx rfl (hb hby at_6) ?_
        show Steps p.tables e below (s₁.setTop (mkF m 7 #[.val (.int i1), .val (.int i2), .val (.long j3), .second, .val (.long j4), .second, .val (.int i5), .unset, .unset, .unset, .unset, .unset, .unset] [(.int (1 : Int32))])) _
        refine XS.goto X0.here hx rfl (pc0 := 7) (pc' := 11) rfl (hb hby at_7) (by decide) (by decide) ?_
        exact k
      exact fun t k => pre4 t (by rw [show (own_j0_3_0 i1) = (1 : Int32) from (if_neg hc3_2)] at k; exact k)
  have pre6 : ∀ t, Steps p.tables e below (s₁.setTop (mkF m 15 #[.val (.int i1), .val (.int i2), .val (.long j3), .second, .val (.long j4), .second, .val (.int i5), .val (.int (own_j0_3_0 i1)), .unset, .unset, .unset, .unset, .unset] [(.int (own_j0_3_0 i1))])) t → Steps p.tables e below (s₁.setTop (entryFrame m #[(.int i1), (.int i2), (.long j3), (.long j4), (.int i5)] maxLocals)) t := by
    intro t k
    refine pre5 _ ?_
    show Steps p.tables e below (s₁.setTop (mkF m 11 #[.val (.int i1), .val (.int i2), .val (.long j3), .second, .val (.long j4), .second, .val (.int i5), .unset, .unset, .unset, .unset, .unset, .unset] [(.int (own_j0_3_0 i1))])) _
    refine XS.istore X0.here hx rfl (hb hby at_11) rfl (l' := #[.val (.int i1), .val (.int i2), .val (.long j3), .second, .val (.long j4), .second, .val (.int i5), .val (.int (own_j0_3_0 i1)), .unset, .unset, .unset, .unset, .unset]) rfl ?_
    show Steps p.tables e below (s₁.setTop (mkF m 13 #[.val (.int i1), .val (.int i2), .val (.long j3), .second, .val (.long j4), .second, .val (.int i5), .val (.int (own_j0_3_0 i1)), .unset, .unset, .unset, .unset, .unset] [])) _
    refine XS.iload X0.here hx rfl (hb hby at_13) rfl ?_
    exact k
  have pre10 : ∀ t, Steps p.tables e below (s₁.setTop (mkF m 23 #[.val (.int i1), .val (.int i2), .val (.long j3), .second, .val (.long j4), .second, .val (.int i5), .val (.int (own_j0_3_0 i1)), .unset, .unset, .unset, .unset, .unset] [(.int (own_j0_15_0 i1 i2))])) t → Steps p.tables e below (s₁.setTop (entryFrame m #[(.int i1), (.int i2), (.long j3), (.long j4), (.int i5)] maxLocals)) t := by
    by_cases hc15_7 : (own_j0_3_0 i1) = (0 : Int32)
    · have pre8 : ∀ t, Steps p.tables e below (s₁.setTop (mkF m 23 #[.val (.int i1), .val (.int i2), .val (.long j3), .second, .val (.long j4), .second, .val (.int i5), .val (.int (own_j0_3_0 i1)), .unset, .unset, .unset, .unset, .unset] [(.int i2)])) t → Steps p.tables e below (s₁.setTop (entryFrame m #[(.int i1), (.int i2), (.long j3), (.long j4), (.int i5)] maxLocals)) t := by
        intro t k
        refine pre6 _ ?_
        show Steps p.tables e below (s₁.setTop (mkF m 15 #[.val (.int i1), .val (.int i2), .val (.long j3), .second, .val (.long j4), .second, .val (.int i5), .val (.int (own_j0_3_0 i1)), .unset, .unset, .unset, .unset, .unset] [(.int (own_j0_3_0 i1))])) _
        refine XS.ifYes X0.here hx rfl (pc0 := 15) (pc' := 22) rfl (hb hby at_15) rfl ((if0 _ _).trans (teq hc15_7).1) (by decide) (by decide) ?_
        show Steps p.tables e below (s₁.setTop (mkF m 22 #[.val (.int i1), .val (.int i2), .val (.long j3), .second, .val (.long j4), .second, .val (.int i5), .val (.int (own_j0_3_0 i1)), .unset, .unset, .unset, .unset, .unset] [])) _
        refine XS.iloadN X0.here hx rfl (hb hby at_22) rfl ?_
        exact k
      exact fun t k => pre8 t (by rw [show (own_j0_15_0 i1 i2) = i2 from (if_pos hc15_7)] at k; exact k)
    · have pre9 : ∀ t, Steps p.tables e below (s₁.setTop (mkF m 23 #[.val (.int i1), .val (.int i2), .val (.long j3), .second, .val (.long j4), .second, .val (.int i5), .val (.int (own_j0_3_0 i1)), .unset, .unset, .unset, .unset, .unset] [(.int (0 : Int32))])) t → Steps p.tables e below (s₁.setTop (entryFrame m #[(.int i1), (.int i2), (.long j3), (.long j4), (.int i5)] maxLocals)) t := by
        intro t k
        refine pre6 _ ?_
        show Steps p.tables e below (s₁.setTop (mkF m 15 #[.val (.int i1), .val (.int i2), .val (.long j3), .second, .val (.long j4), .second, .val (.int i5), .val (.int (own_j0_3_0 i1)), .unset, .unset, .unset, .unset, .unset] [(.int (own_j0_3_0 i1))])) _
        refine XS.ifNo X0.here hx rfl (hb hby at_15) rfl ((if0 _ _).trans (feq hc15_7).1) ?_
        show Steps p.tables e below (s₁.setTop (mkF m 18 #[.val (.int i1), .val (.int i2), .val (.long j3), .second, .val (.long j4), .second, .val (.int i5), .val (.int (own_j0_3_0 i1)), .unset, .unset, .unset, .unset, .unset] [])) _
        refine XS.iconst X0.here hx rfl (hb hby at_18) ?_
        show Steps p.tables e below (s₁.setTop (mkF m 19 #[.val (.int i1), .val (.int i2), .val (.long j3), .second, .val (.long j4), .second, .val (.int i5), .val (.int (own_j0_3_0 i1)), .unset, .unset, .unset, .unset, .unset] [(.int (0 : Int32))])) _
        refine XS.goto X0.here hx rfl (pc0 := 19) (pc' := 23) rfl (hb hby at_19) (by decide) (by decide) ?_
        exact k
      exact fun t k => pre9 t (by rw [show (own_j0_15_0 i1 i2) = (0 : Int32) from (if_neg hc15_7)] at k; exact k)
  obtain ⟨T11, h11, X11, e11, E11, A11, D11, -, st11⟩ := newO X0 hx hZ hown (hw _ (List.mem_of_getElem? (i := 0) rfl)) (hw _ (List.mem_of_getElem? (i := 1) rfl)) (hw _ (List.mem_of_getElem? (i := 2) rfl)) e0 (g := (mkF m 25 #[.val (.int i1), .val (.int i2), .val (.long j3), .second, .val (.long j4), .second, .val (.int i5), .val (.int (own_j0_3_0 i1)), .val (.int (own_j0_15_0 i1 i2)), .unset, .unset, .unset, .unset] [])) rfl (hb hby at_25) (by decide) (by decide)
  obtain ⟨b11, g11⟩ : ∃ z, z = h0.size := ⟨_, rfl⟩
  rw [← g11] at A11 D11 st11
  have sz_b11 : h0.size ≤ b11 := Nat.le_trans (Keep.refl h0 []).1 (Nat.le_of_eq g11.symm)
  have K12 : Keep h0 h11 [] := (Keep.refl h0 []).ext E11
  have FmodCount_11 : Fld Z h11 b11 "java/util/AbstractList" "modCount" "I" (.int (0 : Int32)) := D11 (Or.inl (hw _ (List.mem_of_getElem? (i := 22) rfl))) (ty := .int) (by decide)
  have FelementData_11 : Fld Z h11 b11 "java/util/ArrayList" "elementData" "[Ljava/lang/Object;" .null := D11 (Or.inl (hw _ (List.mem_of_getElem? (i := 25) rfl))) (ty := (.array (.object "java/lang/Object"))) (by decide)
  have f13 := (O_.ext E11)
  obtain ⟨_, _, ⟨T14, L14, k14, n14⟩, -, X14, ⟨Lc14, hQ14, l14, y14, z14⟩, st14⟩ := X11.specialBack hx (y := (⟨"java/util/ArrayList", "<init>", "()V"⟩ : MethodName)) rfl hown (mvT hZ (hw _ (List.mem_of_getElem? (i := 3) rfl))) (mvT hZ (hw _ (List.mem_of_getElem? (i := 4) rfl))) (mvT hZ (hw _ (List.mem_of_getElem? (i := 5) rfl))) (by decide) (backOf (W := 1) (rm1 l Z a0 hw [] b11 (.null) (.int (0 : Int32)) w_DEFAULTCAPACITY_EMPTY_ELEMENTDATA h11 n0 (Nat.le_trans Z0 K12.1) FelementData_11 A11 FmodCount_11 (Nat.le_trans Z0 sz_b11) S_DEFAULTCAPACITY_EMPTY_ELEMENTDATA f13) hZ (hw _ (List.mem_of_getElem? (i := 5) rfl)) (hw _ (List.mem_of_getElem? (i := 2) rfl)) (by decide) (by decide)) (g := (mkF m 29 #[.val (.int i1), .val (.int i2), .val (.long j3), .second, .val (.long j4), .second, .val (.int i5), .val (.int (own_j0_3_0 i1)), .val (.int (own_j0_15_0 i1 i2)), .unset, .unset, .unset, .unset] [(.ref b11), (.ref b11)])) rfl (by rw [hml]; rfl) (Steps.refl _) (a := b11) (argsL := []) (rest := [(.ref b11)]) (lenOf pd_0 rfl) rfl (by show 2 * 0 + _ ≤ _; exact Nat.le_of_eq rfl) (hb hby at_29) (fun _ _ => ⟨rfl, e11, (by decide : 1 + 0 ≤ _), (by decide : 3 + 0 ≤ _)⟩)
  dsimp only [Pt.U, Pt.locs, Pt.cells, Pt.slots] at X14 l14 y14 z14 st14 hQ14
  subst l14 y14 z14
  obtain ⟨rfl, Nq14, Kq14, f14_0, f14_1, f14_2⟩ := hQ14
  have K15 : Keep h0 T14.heap [] := K12.trans Kq14 (allS (Or.inr sz_b11) all0)
  have N14 := Fr.app N0 Nq14
  obtain ⟨T16, h16, X16, e16, E16, A16, D16, -, st16⟩ := newO X14 hx hZ hown (hw _ (List.mem_of_getElem? (i := 26) rfl)) (hw _ (List.mem_of_getElem? (i := 27) rfl)) (hw _ (List.mem_of_getElem? (i := 28) rfl)) rfl (g := (mkF m 34 #[.val (.int i1), .val (.int i2), .val (.long j3), .second, .val (.long j4), .second, .val (.int i5), .val (.int (own_j0_3_0 i1)), .val (.int (own_j0_15_0 i1 i2)), .val (.ref b11), .unset, .unset, .unset] [])) rfl (hb hby at_34) (by decide) (by decide)
  obtain ⟨b16, g16⟩ : ∃ z, z = T14.heap.size := ⟨_, rfl⟩
  rw [← g16] at A16 D16 st16
  have sz_b16 : h0.size ≤ b16 := Nat.le_trans K15.1 (Nat.le_of_eq g16.symm)
  have K17 : Keep h0 h16 [] := K15.ext E16
  have Ferrors_16 : Fld Z h16 b16 "com/example/arpol/arpol/PolicyReading" "errors" "Ljava/util/List;" .null := D16 (Or.inr (hw _ (List.mem_of_getElem? (i := 34) rfl))) (ty := (.object "java/util/List")) (by decide)
  have Fstatements_16 : Fld Z h16 b16 "com/example/arpol/arpol/PolicyReading" "statements" "I" (.int (0 : Int32)) := D16 (Or.inr (hw _ (List.mem_of_getElem? (i := 36) rfl))) (ty := .int) (by decide)
  have Flength_16 : Fld Z h16 b16 "com/example/arpol/arpol/PolicyReading" "length" "J" (.long (0 : Int64)) := D16 (Or.inr (hw _ (List.mem_of_getElem? (i := 38) rfl))) (ty := .long) (by decide)
  have FunfinishedLine_16 : Fld Z h16 b16 "com/example/arpol/arpol/PolicyReading" "unfinishedLine" "I" (.int (0 : Int32)) := D16 (Or.inr (hw _ (List.mem_of_getElem? (i := 40) rfl))) (ty := .int) (by decide)
  have FunfinishedOffset_16 : Fld Z h16 b16 "com/example/arpol/arpol/PolicyReading" "unfinishedOffset" "J" (.long (0 : Int64)) := D16 (Or.inr (hw _ (List.mem_of_getElem? (i := 42) rfl))) (ty := .long) (by decide)
  obtain ⟨_, _, ⟨T18, L18, k18, n18⟩, -, X18, ⟨Lc18, hQ18, l18, y18, z18⟩, st18⟩ := X16.specialBack hx (y := (⟨"com/example/arpol/arpol/PolicyReading", "<init>", "(Ljava/util/List;IJIJ)V"⟩ : MethodName)) rfl hown (mvT hZ (hw _ (List.mem_of_getElem? (i := 29) rfl))) (mvT hZ (hw _ (List.mem_of_getElem? (i := 30) rfl))) (mvT hZ (hw _ (List.mem_of_getElem? (i := 31) rfl))) (by decide) (backOf (W := 1) (rm5 l Z a0 hw [] b16 b11 i5 j3 (own_j0_15_0 i1 i2) j4 (.null) (.int (0 : Int32)) (.long (0 : Int64)) (.int (0 : Int32)) (.long (0 : Int64)) h16 n0 (Nat.le_trans Z0 K17.1) A16 Ferrors_16 (Nat.le_trans Z0 sz_b16) Fstatements_16 Flength_16 FunfinishedLine_16 FunfinishedOffset_16) hZ (hw _ (List.mem_of_getElem? (i := 31) rfl)) (hw _ (List.mem_of_getElem? (i := 28) rfl)) (by decide) (by decide)) (g := (mkF m 47 #[.val (.int i1), .val (.int i2), .val (.long j3), .second, .val (.long j4), .second, .val (.int i5), .val (.int (own_j0_3_0 i1)), .val (.int (own_j0_15_0 i1 i2)), .val (.ref b11), .unset, .unset, .unset] [(.long j4), (.int (own_j0_15_0 i1 i2)), (.long j3), (.int i5), (.ref b11), (.ref b16), (.ref b16)])) rfl (by rw [hml]; rfl) (Steps.refl _) (a := b16) (argsL := [(.ref b11), (.int i5), (.long j3), (.int (own_j0_15_0 i1 i2)), (.long j4)]) (rest := [(.ref b16)]) (lenOf pd_1 rfl) rfl (by show 2 * 0 + _ ≤ _; exact Nat.le_of_eq rfl) (hb hby at_47) (fun _ _ => ⟨rfl, e16, (by decide : 2 + 0 ≤ _), (by decide : 8 + 0 ≤ _)⟩)
  dsimp only [Pt.U, Pt.locs, Pt.cells, Pt.slots] at X18 l18 y18 z18 st18 hQ18
  subst l18 y18 z18
  obtain ⟨rfl, Nq18, Kq18, f18_0, f18_1, f18_2, f18_3, f18_4, f18_5⟩ := hQ18
  have K19 : Keep h0 T18.heap [] := K17.trans Kq18 (allS (Or.inr sz_b16) all0)
  have N18 := Fr.app N14 Nq18
  obtain ⟨cq20, kq20, q20a, q20b, q20c⟩ := isOf hZ rfl f18_0
  obtain ⟨_, _, ⟨T20, L20, k20, n20⟩, -, X20, ⟨Lc20, hQ20, l20, y20, z20⟩, st20⟩ := X18.virtualBack hx (y := (⟨"com/example/arpol/arpol/PolicyReading", "finishedLength", "()J"⟩ : MethodName)) (z := (⟨"com/example/arpol/arpol/PolicyReading", "finishedLength", "()J"⟩ : MethodName)) hown (mvT hZ (hw _ (List.mem_of_getElem? (i := 43) rfl))) (mvT hZ (hw _ (List.mem_of_getElem? (i := 44) rfl))) (notFace_of_selects (args := #[]) (mvT hZ (hw _ (List.mem_of_getElem? (i := 46) rfl)))) (mvT hZ (hw _ (List.mem_of_getElem? (i := 46) rfl))) (mvT hZ (hw _ (List.mem_of_getElem? (i := 45) rfl))) (by decide) (backOf (W := 0) (rm6 l Z a0 hw [] b16 (own_j0_15_0 i1 i2) j3 j4 T18.heap n0 (Nat.le_trans Z0 K19.1) f18_4 f18_3 f18_5) hZ (hw _ (List.mem_of_getElem? (i := 47) rfl)) (hw _ (List.mem_of_getElem? (i := 28) rfl)) (by decide) (by decide)) q20a q20c (g := (mkF m 54 #[.val (.int i1), .val (.int i2), .val (.long j3), .second, .val (.long j4), .second, .val (.int i5), .val (.int (own_j0_3_0 i1)), .val (.int (own_j0_15_0 i1 i2)), .val (.ref b11), .val (.ref b16), .unset, .unset] [(.ref b16)])) rfl (by rw [hml]; rfl) (Steps.refl _) (argsL := []) (rest := []) (lenOf pd_2 rfl) rfl (by show 2 * 0 + _ ≤ _; exact Nat.le_of_eq rfl) (hb hby at_54) (fun _ _ => ⟨rfl, rfl, (by decide : 2 + 0 ≤ _), (by decide : 8 + 0 ≤ _)⟩)
  dsimp only [Pt.U, Pt.locs, Pt.cells, Pt.slots] at X20 l20 y20 z20 st20 hQ20
  subst l20 y20 z20
  obtain ⟨rfl, Nq20, e20⟩ := hQ20
  have N20 := Fr.app N18 Nq20
  have pre21 : ∀ t, Steps p.tables e below (T20.setTop (mkF m 61 #[.val (.int i1), .val (.int i2), .val (.long j3), .second, .val (.long j4), .second, .val (.int i5), .val (.int (own_j0_3_0 i1)), .val (.int (own_j0_15_0 i1 i2)), .val (.ref b11), .val (.ref b16), .val (.long (own_j6_4_0 (own_j0_15_0 i1 i2) j3 j4)), .second] [(.int (own_j0_15_0 i1 i2))])) t → Steps p.tables e below (s₁.setTop (entryFrame m #[(.int i1), (.int i2), (.long j3), (.long j4), (.int i5)] maxLocals)) t := by
    intro t k
    refine pre10 _ ?_
    show Steps p.tables e below (s₁.setTop (mkF m 23 #[.val (.int i1), .val (.int i2), .val (.long j3), .second, .val (.long j4), .second, .val (.int i5), .val (.int (own_j0_3_0 i1)), .unset, .unset, .unset, .unset, .unset] [(.int (own_j0_15_0 i1 i2))])) _
    refine XS.istore X0.here hx rfl (hb hby at_23) rfl (l' := #[.val (.int i1), .val (.int i2), .val (.long j3), .second, .val (.long j4), .second, .val (.int i5), .val (.int (own_j0_3_0 i1)), .val (.int (own_j0_15_0 i1 i2)), .unset, .unset, .unset, .unset]) rfl ?_
    show Steps p.tables e below (s₁.setTop (mkF m 25 #[.val (.int i1), .val (.int i2), .val (.long j3), .second, .val (.long j4), .second, .val (.int i5), .val (.int (own_j0_3_0 i1)), .val (.int (own_j0_15_0 i1 i2)), .unset, .unset, .unset, .unset] [])) _
    refine st11 _ ?_
    show Steps p.tables e below (T11.setTop (mkF m 28 #[.val (.int i1), .val (.int i2), .val (.long j3), .second, .val (.long j4), .second, .val (.int i5), .val (.int (own_j0_3_0 i1)), .val (.int (own_j0_15_0 i1 i2)), .unset, .unset, .unset, .unset] [(.ref b11)])) _
    refine XS.dup X11.here hx rfl (hb hby at_28) rfl rfl ?_
    show Steps p.tables e below (T11.setTop (mkF m 29 #[.val (.int i1), .val (.int i2), .val (.long j3), .second, .val (.long j4), .second, .val (.int i5), .val (.int (own_j0_3_0 i1)), .val (.int (own_j0_15_0 i1 i2)), .unset, .unset, .unset, .unset] [(.ref b11), (.ref b11)])) _
    refine st14.trans ?_
    show Steps p.tables e below (T14.setTop (mkF m 32 #[.val (.int i1), .val (.int i2), .val (.long j3), .second, .val (.long j4), .second, .val (.int i5), .val (.int (own_j0_3_0 i1)), .val (.int (own_j0_15_0 i1 i2)), .unset, .unset, .unset, .unset] [(.ref b11)])) _
    refine XS.astore X14.here hx rfl (hb hby at_32) rfl rfl (l' := #[.val (.int i1), .val (.int i2), .val (.long j3), .second, .val (.long j4), .second, .val (.int i5), .val (.int (own_j0_3_0 i1)), .val (.int (own_j0_15_0 i1 i2)), .val (.ref b11), .unset, .unset, .unset]) rfl ?_
    show Steps p.tables e below (T14.setTop (mkF m 34 #[.val (.int i1), .val (.int i2), .val (.long j3), .second, .val (.long j4), .second, .val (.int i5), .val (.int (own_j0_3_0 i1)), .val (.int (own_j0_15_0 i1 i2)), .val (.ref b11), .unset, .unset, .unset] [])) _
    refine st16 _ ?_
    show Steps p.tables e below (T16.setTop (mkF m 37 #[.val (.int i1), .val (.int i2), .val (.long j3), .second, .val (.long j4), .second, .val (.int i5), .val (.int (own_j0_3_0 i1)), .val (.int (own_j0_15_0 i1 i2)), .val (.ref b11), .unset, .unset, .unset] [(.ref b16)])) _
    refine XS.dup X16.here hx rfl (hb hby at_37) rfl rfl ?_
    show Steps p.tables e below (T16.setTop (mkF m 38 #[.val (.int i1), .val (.int i2), .val (.long j3), .second, .val (.long j4), .second, .val (.int i5), .val (.int (own_j0_3_0 i1)), .val (.int (own_j0_15_0 i1 i2)), .val (.ref b11), .unset, .unset, .unset] [(.ref b16), (.ref b16)])) _
    refine XS.aload X16.here hx rfl (hb hby at_38) rfl rfl ?_
    show Steps p.tables e below (T16.setTop (mkF m 40 #[.val (.int i1), .val (.int i2), .val (.long j3), .second, .val (.long j4), .second, .val (.int i5), .val (.int (own_j0_3_0 i1)), .val (.int (own_j0_15_0 i1 i2)), .val (.ref b11), .unset, .unset, .unset] [(.ref b11), (.ref b16), (.ref b16)])) _
    refine XS.iload X16.here hx rfl (hb hby at_40) rfl ?_
    show Steps p.tables e below (T16.setTop (mkF m 42 #[.val (.int i1), .val (.int i2), .val (.long j3), .second, .val (.long j4), .second, .val (.int i5), .val (.int (own_j0_3_0 i1)), .val (.int (own_j0_15_0 i1 i2)), .val (.ref b11), .unset, .unset, .unset] [(.int i5), (.ref b11), (.ref b16), (.ref b16)])) _
    refine XS.lloadN X16.here hx rfl (hb hby at_42) rfl ?_
    show Steps p.tables e below (T16.setTop (mkF m 43 #[.val (.int i1), .val (.int i2), .val (.long j3), .second, .val (.long j4), .second, .val (.int i5), .val (.int (own_j0_3_0 i1)), .val (.int (own_j0_15_0 i1 i2)), .val (.ref b11), .unset, .unset, .unset] [(.long j3), (.int i5), (.ref b11), (.ref b16), (.ref b16)])) _
    refine XS.iload X16.here hx rfl (hb hby at_43) rfl ?_
    show Steps p.tables e below (T16.setTop (mkF m 45 #[.val (.int i1), .val (.int i2), .val (.long j3), .second, .val (.long j4), .second, .val (.int i5), .val (.int (own_j0_3_0 i1)), .val (.int (own_j0_15_0 i1 i2)), .val (.ref b11), .unset, .unset, .unset] [(.int (own_j0_15_0 i1 i2)), (.long j3), (.int i5), (.ref b11), (.ref b16), (.ref b16)])) _
    refine XS.lload X16.here hx rfl (hb hby at_45) rfl ?_
    show Steps p.tables e below (T16.setTop (mkF m 47 #[.val (.int i1), .val (.int i2), .val (.long j3), .second, .val (.long j4), .second, .val (.int i5), .val (.int (own_j0_3_0 i1)), .val (.int (own_j0_15_0 i1 i2)), .val (.ref b11), .unset, .unset, .unset] [(.long j4), (.int (own_j0_15_0 i1 i2)), (.long j3), (.int i5), (.ref b11), (.ref b16), (.ref b16)])) _
    refine st18.trans ?_
    show Steps p.tables e below (T18.setTop (mkF m 50 #[.val (.int i1), .val (.int i2), .val (.long j3), .second, .val (.long j4), .second, .val (.int i5), .val (.int (own_j0_3_0 i1)), .val (.int (own_j0_15_0 i1 i2)), .val (.ref b11), .unset, .unset, .unset] [(.ref b16)])) _
    refine XS.astore X18.here hx rfl (hb hby at_50) rfl rfl (l' := #[.val (.int i1), .val (.int i2), .val (.long j3), .second, .val (.long j4), .second, .val (.int i5), .val (.int (own_j0_3_0 i1)), .val (.int (own_j0_15_0 i1 i2)), .val (.ref b11), .val (.ref b16), .unset, .unset]) rfl ?_
    show Steps p.tables e below (T18.setTop (mkF m 52 #[.val (.int i1), .val (.int i2), .val (.long j3), .second, .val (.long j4), .second, .val (.int i5), .val (.int (own_j0_3_0 i1)), .val (.int (own_j0_15_0 i1 i2)), .val (.ref b11), .val (.ref b16), .unset, .unset] [])) _
    refine XS.aload X18.here hx rfl (hb hby at_52) rfl rfl ?_
    show Steps p.tables e below (T18.setTop (mkF m 54 #[.val (.int i1), .val (.int i2), .val (.long j3), .second, .val (.long j4), .second, .val (.int i5), .val (.int (own_j0_3_0 i1)), .val (.int (own_j0_15_0 i1 i2)), .val (.ref b11), .val (.ref b16), .unset, .unset] [(.ref b16)])) _
    refine st20.trans ?_
    show Steps p.tables e below (T20.setTop (mkF m 57 #[.val (.int i1), .val (.int i2), .val (.long j3), .second, .val (.long j4), .second, .val (.int i5), .val (.int (own_j0_3_0 i1)), .val (.int (own_j0_15_0 i1 i2)), .val (.ref b11), .val (.ref b16), .unset, .unset] [(.long (own_j6_4_0 (own_j0_15_0 i1 i2) j3 j4))])) _
    refine XS.lstore X20.here hx rfl (hb hby at_57) rfl (l' := #[.val (.int i1), .val (.int i2), .val (.long j3), .second, .val (.long j4), .second, .val (.int i5), .val (.int (own_j0_3_0 i1)), .val (.int (own_j0_15_0 i1 i2)), .val (.ref b11), .val (.ref b16), .val (.long (own_j6_4_0 (own_j0_15_0 i1 i2) j3 j4)), .second]) rfl ?_
    show Steps p.tables e below (T20.setTop (mkF m 59 #[.val (.int i1), .val (.int i2), .val (.long j3), .second, .val (.long j4), .second, .val (.int i5), .val (.int (own_j0_3_0 i1)), .val (.int (own_j0_15_0 i1 i2)), .val (.ref b11), .val (.ref b16), .val (.long (own_j6_4_0 (own_j0_15_0 i1 i2) j3 j4)), .second] [])) _
    refine XS.iload X20.here hx rfl (hb hby at_59) rfl ?_
    exact k
  by_cases hc61_22 : (own_j0_15_0 i1 i2) = (0 : Int32)
  · have pre23 : ∀ t, Steps p.tables e below (T20.setTop (mkF m 68 #[.val (.int i1), .val (.int i2), .val (.long j3), .second, .val (.long j4), .second, .val (.int i5), .val (.int (own_j0_3_0 i1)), .val (.int (own_j0_15_0 i1 i2)), .val (.ref b11), .val (.ref b16), .val (.long (own_j6_4_0 (own_j0_15_0 i1 i2) j3 j4)), .second] [(.int (lcmpW (own_j6_4_0 (own_j0_15_0 i1 i2) j3 j4) j3))])) t → Steps p.tables e below (s₁.setTop (entryFrame m #[(.int i1), (.int i2), (.long j3), (.long j4), (.int i5)] maxLocals)) t := by
      intro t k
      refine pre21 _ ?_
      show Steps p.tables e below (T20.setTop (mkF m 61 #[.val (.int i1), .val (.int i2), .val (.long j3), .second, .val (.long j4), .second, .val (.int i5), .val (.int (own_j0_3_0 i1)), .val (.int (own_j0_15_0 i1 i2)), .val (.ref b11), .val (.ref b16), .val (.long (own_j6_4_0 (own_j0_15_0 i1 i2) j3 j4)), .second] [(.int (own_j0_15_0 i1 i2))])) _
      refine XS.ifNo X20.here hx rfl (hb hby at_61) rfl ((if0 _ _).trans (teq hc61_22).2) ?_
      show Steps p.tables e below (T20.setTop (mkF m 64 #[.val (.int i1), .val (.int i2), .val (.long j3), .second, .val (.long j4), .second, .val (.int i5), .val (.int (own_j0_3_0 i1)), .val (.int (own_j0_15_0 i1 i2)), .val (.ref b11), .val (.ref b16), .val (.long (own_j6_4_0 (own_j0_15_0 i1 i2) j3 j4)), .second] [])) _
      refine XS.lload X20.here hx rfl (hb hby at_64) rfl ?_
      show Steps p.tables e below (T20.setTop (mkF m 66 #[.val (.int i1), .val (.int i2), .val (.long j3), .second, .val (.long j4), .second, .val (.int i5), .val (.int (own_j0_3_0 i1)), .val (.int (own_j0_15_0 i1 i2)), .val (.ref b11), .val (.ref b16), .val (.long (own_j6_4_0 (own_j0_15_0 i1 i2) j3 j4)), .second] [(.long (own_j6_4_0 (own_j0_15_0 i1 i2) j3 j4))])) _
      refine XS.lloadN X20.here hx rfl (hb hby at_66) rfl ?_
      show Steps p.tables e below (T20.setTop (mkF m 67 #[.val (.int i1), .val (.int i2), .val (.long j3), .second, .val (.long j4), .second, .val (.int i5), .val (.int (own_j0_3_0 i1)), .val (.int (own_j0_15_0 i1 i2)), .val (.ref b11), .val (.ref b16), .val (.long (own_j6_4_0 (own_j0_15_0 i1 i2) j3 j4)), .second] [(.long j3), (.long (own_j6_4_0 (own_j0_15_0 i1 i2) j3 j4))])) _
      refine XS.lcmp X20.here hx rfl (hb hby at_67) rfl ?_
      exact k
    obtain ⟨T29, Lq29, X29, N29, e29, pre29⟩ : ∃ (T' : State) (locs' : List Loc), Stand p l e room_1 s m #[(.int i1), (.int i2), (.long j3), (.long j4), (.int i5)] below meth c T' locs' 2 8 ∧ Fr n0 locs' ∧ T'.heap = T18.heap ∧ ∀ t, Steps p.tables e below (T'.setTop (mkF m 95 #[.val (.int i1), .val (.int i2), .val (.long j3), .second, .val (.long j4), .second, .val (.int i5), .val (.int (own_j0_3_0 i1)), .val (.int (own_j0_15_0 i1 i2)), .val (.ref b11), .val (.ref b16), .val (.long (own_j6_4_0 (own_j0_15_0 i1 i2) j3 j4)), .second] [(.int (own_j0_68_0 i1 i2 j3 j4))])) t → Steps p.tables e below (s₁.setTop (entryFrame m #[(.int i1), (.int i2), (.long j3), (.long j4), (.int i5)] maxLocals)) t := by
      by_cases hc68_24 : (own_j6_4_0 (own_j0_15_0 i1 i2) j3 j4) = j3
      · obtain ⟨cq25, kq25, q25a, q25b, q25c⟩ := isOf hZ e20 f18_0
        obtain ⟨_, _, ⟨T25, L25, k25, n25⟩, -, X25, ⟨Lc25, hQ25, l25, y25, z25⟩, st25⟩ := X20.virtualBack hx (y := (⟨"com/example/arpol/arpol/PolicyReading", "length", "()J"⟩ : MethodName)) (z := (⟨"com/example/arpol/arpol/PolicyReading", "length", "()J"⟩ : MethodName)) hown (mvT hZ (hw _ (List.mem_of_getElem? (i := 53) rfl))) (mvT hZ (hw _ (List.mem_of_getElem? (i := 54) rfl))) (notFace_of_selects (args := #[]) (mvT hZ (hw _ (List.mem_of_getElem? (i := 56) rfl)))) (mvT hZ (hw _ (List.mem_of_getElem? (i := 56) rfl))) (mvT hZ (hw _ (List.mem_of_getElem? (i := 55) rfl))) (by decide) (backOf (W := 2) (rm8 l Z a0 hw [] b16 j3 T18.heap n0 (Nat.le_trans Z0 K19.1) f18_3) hZ (hw _ (List.mem_of_getElem? (i := 57) rfl)) (hw _ (List.mem_of_getElem? (i := 28) rfl)) (by decide) (by decide)) q25a q25c (g := (mkF m 75 #[.val (.int i1), .val (.int i2), .val (.long j3), .second, .val (.long j4), .second, .val (.int i5), .val (.int (own_j0_3_0 i1)), .val (.int (own_j0_15_0 i1 i2)), .val (.ref b11), .val (.ref b16), .val (.long (own_j6_4_0 (own_j0_15_0 i1 i2) j3 j4)), .second] [(.ref b16), (.long (own_j6_4_0 (own_j0_15_0 i1 i2) j3 j4))])) rfl (by rw [hml]; rfl) (Steps.refl _) (argsL := []) (rest := [(.long (own_j6_4_0 (own_j0_15_0 i1 i2) j3 j4))]) (lenOf pd_2 rfl) rfl (by show 2 * 0 + _ ≤ _; exact Nat.le_of_eq rfl) (hb hby at_75) (fun _ _ => ⟨rfl, e20, (by decide : 2 + 0 ≤ _), (by decide : 8 + 0 ≤ _)⟩)
        dsimp only [Pt.U, Pt.locs, Pt.cells, Pt.slots] at X25 l25 y25 z25 st25 hQ25
        subst l25 y25 z25
        obtain ⟨rfl, Nq25, e25⟩ := hQ25
        have N25 := Fr.app N20 Nq25
        obtain ⟨cq26, kq26, q26a, q26b, q26c⟩ := isOf hZ e25 f18_0
        obtain ⟨_, _, ⟨T26, L26, k26, n26⟩, -, X26, ⟨Lc26, hQ26, l26, y26, z26⟩, st26⟩ := X25.virtualBack hx (y := (⟨"com/example/arpol/arpol/PolicyReading", "unfinishedLine", "()I"⟩ : MethodName)) (z := (⟨"com/example/arpol/arpol/PolicyReading", "unfinishedLine", "()I"⟩ : MethodName)) hown (mvT hZ (hw _ (List.mem_of_getElem? (i := 48) rfl))) (mvT hZ (hw _ (List.mem_of_getElem? (i := 49) rfl))) (notFace_of_selects (args := #[]) (mvT hZ (hw _ (List.mem_of_getElem? (i := 51) rfl)))) (mvT hZ (hw _ (List.mem_of_getElem? (i := 51) rfl))) (mvT hZ (hw _ (List.mem_of_getElem? (i := 50) rfl))) (by decide) (backOf (W := 0) (rm7 l Z a0 hw [] b16 (own_j0_15_0 i1 i2) T18.heap n0 (Nat.le_trans Z0 K19.1) f18_4) hZ (hw _ (List.mem_of_getElem? (i := 52) rfl)) (hw _ (List.mem_of_getElem? (i := 28) rfl)) (by decide) (by decide)) q26a q26c (g := (mkF m 84 #[.val (.int i1), .val (.int i2), .val (.long j3), .second, .val (.long j4), .second, .val (.int i5), .val (.int (own_j0_3_0 i1)), .val (.int (own_j0_15_0 i1 i2)), .val (.ref b11), .val (.ref b16), .val (.long (own_j6_4_0 (own_j0_15_0 i1 i2) j3 j4)), .second] [(.ref b16)])) rfl (by rw [hml]; rfl) (Steps.refl _) (argsL := []) (rest := []) (lenOf pd_3 rfl) rfl (by show 2 * 0 + _ ≤ _; exact Nat.le_of_eq rfl) (hb hby at_84) (fun _ _ => ⟨rfl, e25, (by decide : 2 + 0 ≤ _), (by decide : 8 + 0 ≤ _)⟩)
        dsimp only [Pt.U, Pt.locs, Pt.cells, Pt.slots] at X26 l26 y26 z26 st26 hQ26
        subst l26 y26 z26
        obtain ⟨rfl, Nq26, e26⟩ := hQ26
        have N26 := Fr.app N25 Nq26
        have pre27 : ∀ t, Steps p.tables e below (T26.setTop (mkF m 95 #[.val (.int i1), .val (.int i2), .val (.long j3), .second, .val (.long j4), .second, .val (.int i5), .val (.int (own_j0_3_0 i1)), .val (.int (own_j0_15_0 i1 i2)), .val (.ref b11), .val (.ref b16), .val (.long (own_j6_4_0 (own_j0_15_0 i1 i2) j3 j4)), .second] [(.int (1 : Int32))])) t → Steps p.tables e below (s₁.setTop (entryFrame m #[(.int i1), (.int i2), (.long j3), (.long j4), (.int i5)] maxLocals)) t := by
          intro t k
          refine pre23 _ ?_
          show Steps p.tables e below (T20.setTop (mkF m 68 #[.val (.int i1), .val (.int i2), .val (.long j3), .second, .val (.long j4), .second, .val (.int i5), .val (.int (own_j0_3_0 i1)), .val (.int (own_j0_15_0 i1 i2)), .val (.ref b11), .val (.ref b16), .val (.long (own_j6_4_0 (own_j0_15_0 i1 i2) j3 j4)), .second] [(.int (lcmpW (own_j6_4_0 (own_j0_15_0 i1 i2) j3 j4) j3))])) _
          refine XS.ifNo X20.here hx rfl (hb hby at_68) rfl ((if0 _ _).trans (teq ((lw_eq (own_j6_4_0 (own_j0_15_0 i1 i2) j3 j4) j3).mpr hc68_24)).2) ?_
          show Steps p.tables e below (T20.setTop (mkF m 71 #[.val (.int i1), .val (.int i2), .val (.long j3), .second, .val (.long j4), .second, .val (.int i5), .val (.int (own_j0_3_0 i1)), .val (.int (own_j0_15_0 i1 i2)), .val (.ref b11), .val (.ref b16), .val (.long (own_j6_4_0 (own_j0_15_0 i1 i2) j3 j4)), .second] [])) _
          refine XS.lload X20.here hx rfl (hb hby at_71) rfl ?_
          show Steps p.tables e below (T20.setTop (mkF m 73 #[.val (.int i1), .val (.int i2), .val (.long j3), .second, .val (.long j4), .second, .val (.int i5), .val (.int (own_j0_3_0 i1)), .val (.int (own_j0_15_0 i1 i2)), .val (.ref b11), .val (.ref b16), .val (.long (own_j6_4_0 (own_j0_15_0 i1 i2) j3 j4)), .second] [(.long (own_j6_4_0 (own_j0_15_0 i1 i2) j3 j4))])) _
          refine XS.aload X20.here hx rfl (hb hby at_73) rfl rfl ?_
          show Steps p.tables e below (T20.setTop (mkF m 75 #[.val (.int i1), .val (.int i2), .val (.long j3), .second, .val (.long j4), .second, .val (.int i5), .val (.int (own_j0_3_0 i1)), .val (.int (own_j0_15_0 i1 i2)), .val (.ref b11), .val (.ref b16), .val (.long (own_j6_4_0 (own_j0_15_0 i1 i2) j3 j4)), .second] [(.ref b16), (.long (own_j6_4_0 (own_j0_15_0 i1 i2) j3 j4))])) _
          refine st25.trans ?_
          show Steps p.tables e below (T25.setTop (mkF m 78 #[.val (.int i1), .val (.int i2), .val (.long j3), .second, .val (.long j4), .second, .val (.int i5), .val (.int (own_j0_3_0 i1)), .val (.int (own_j0_15_0 i1 i2)), .val (.ref b11), .val (.ref b16), .val (.long (own_j6_4_0 (own_j0_15_0 i1 i2) j3 j4)), .second] [(.long j3), (.long (own_j6_4_0 (own_j0_15_0 i1 i2) j3 j4))])) _
          refine XS.lcmp X25.here hx rfl (hb hby at_78) rfl ?_
          show Steps p.tables e below (T25.setTop (mkF m 79 #[.val (.int i1), .val (.int i2), .val (.long j3), .second, .val (.long j4), .second, .val (.int i5), .val (.int (own_j0_3_0 i1)), .val (.int (own_j0_15_0 i1 i2)), .val (.ref b11), .val (.ref b16), .val (.long (own_j6_4_0 (own_j0_15_0 i1 i2) j3 j4)), .second] [(.int (lcmpW (own_j6_4_0 (own_j0_15_0 i1 i2) j3 j4) j3))])) _
          refine XS.ifNo X25.here hx rfl (hb hby at_79) rfl ((if0 _ _).trans (teq ((lw_eq (own_j6_4_0 (own_j0_15_0 i1 i2) j3 j4) j3).mpr hc68_24)).2) ?_
          show Steps p.tables e below (T25.setTop (mkF m 82 #[.val (.int i1), .val (.int i2), .val (.long j3), .second, .val (.long j4), .second, .val (.int i5), .val (.int (own_j0_3_0 i1)), .val (.int (own_j0_15_0 i1 i2)), .val (.ref b11), .val (.ref b16), .val (.long (own_j6_4_0 (own_j0_15_0 i1 i2) j3 j4)), .second] [])) _
          refine XS.aload X25.here hx rfl (hb hby at_82) rfl rfl ?_
          show Steps p.tables e below (T25.setTop (mkF m 84 #[.val (.int i1), .val (.int i2), .val (.long j3), .second, .val (.long j4), .second, .val (.int i5), .val (.int (own_j0_3_0 i1)), .val (.int (own_j0_15_0 i1 i2)), .val (.ref b11), .val (.ref b16), .val (.long (own_j6_4_0 (own_j0_15_0 i1 i2) j3 j4)), .second] [(.ref b16)])) _
          refine st26.trans ?_
          show Steps p.tables e below (T26.setTop (mkF m 87 #[.val (.int i1), .val (.int i2), .val (.long j3), .second, .val (.long j4), .second, .val (.int i5), .val (.int (own_j0_3_0 i1)), .val (.int (own_j0_15_0 i1 i2)), .val (.ref b11), .val (.ref b16), .val (.long (own_j6_4_0 (own_j0_15_0 i1 i2) j3 j4)), .second] [(.int (own_j0_15_0 i1 i2))])) _
          refine XS.ifNo X26.here hx rfl (hb hby at_87) rfl ((if0 _ _).trans (teq hc61_22).2) ?_
          show Steps p.tables e below (T26.setTop (mkF m 90 #[.val (.int i1), .val (.int i2), .val (.long j3), .second, .val (.long j4), .second, .val (.int i5), .val (.int (own_j0_3_0 i1)), .val (.int (own_j0_15_0 i1 i2)), .val (.ref b11), .val (.ref b16), .val (.long (own_j6_4_0 (own_j0_15_0 i1 i2) j3 j4)), .second] [])) _
          refine XS.iconst X26.here hx rfl (hb hby at_90) ?_
          show Steps p.tables e below (T26.setTop (mkF m 91 #[.val (.int i1), .val (.int i2), .val (.long j3), .second, .val (.long j4), .second, .val (.int i5), .val (.int (own_j0_3_0 i1)), .val (.int (own_j0_15_0 i1 i2)), .val (.ref b11), .val (.ref b16), .val (.long (own_j6_4_0 (own_j0_15_0 i1 i2) j3 j4)), .second] [(.int (1 : Int32))])) _
          refine XS.goto X26.here hx rfl (pc0 := 91) (pc' := 95) rfl (hb hby at_91) (by decide) (by decide) ?_
          exact k
        exact ⟨T26, _, X26, N26, e26, fun t k => pre27 t (by rw [show (own_j0_68_0 i1 i2 j3 j4) = (1 : Int32) from (if_pos hc68_24)] at k; exact k)⟩
      · have pre28 : ∀ t, Steps p.tables e below (T20.setTop (mkF m 95 #[.val (.int i1), .val (.int i2), .val (.long j3), .second, .val (.long j4), .second, .val (.int i5), .val (.int (own_j0_3_0 i1)), .val (.int (own_j0_15_0 i1 i2)), .val (.ref b11), .val (.ref b16), .val (.long (own_j6_4_0 (own_j0_15_0 i1 i2) j3 j4)), .second] [(.int (0 : Int32))])) t → Steps p.tables e below (s₁.setTop (entryFrame m #[(.int i1), (.int i2), (.long j3), (.long j4), (.int i5)] maxLocals)) t := by
          intro t k
          refine pre23 _ ?_
          show Steps p.tables e below (T20.setTop (mkF m 68 #[.val (.int i1), .val (.int i2), .val (.long j3), .second, .val (.long j4), .second, .val (.int i5), .val (.int (own_j0_3_0 i1)), .val (.int (own_j0_15_0 i1 i2)), .val (.ref b11), .val (.ref b16), .val (.long (own_j6_4_0 (own_j0_15_0 i1 i2) j3 j4)), .second] [(.int (lcmpW (own_j6_4_0 (own_j0_15_0 i1 i2) j3 j4) j3))])) _
          refine XS.ifYes X20.here hx rfl (pc0 := 68) (pc' := 94) rfl (hb hby at_68) rfl ((if0 _ _).trans (feq (mt (lw_eq (own_j6_4_0 (own_j0_15_0 i1 i2) j3 j4) j3).mp hc68_24)).2) (by decide) (by decide) ?_
          show Steps p.tables e below (T20.setTop (mkF m 94 #[.val (.int i1), .val (.int i2), .val (.long j3), .second, .val (.long j4), .second, .val (.int i5), .val (.int (own_j0_3_0 i1)), .val (.int (own_j0_15_0 i1 i2)), .val (.ref b11), .val (.ref b16), .val (.long (own_j6_4_0 (own_j0_15_0 i1 i2) j3 j4)), .second] [])) _
          refine XS.iconst X20.here hx rfl (hb hby at_94) ?_
          exact k
        exact ⟨T20, _, X20, N20, e20, fun t k => pre28 t (by rw [show (own_j0_68_0 i1 i2 j3 j4) = (0 : Int32) from (if_neg hc68_24)] at k; exact k)⟩
    obtain ⟨fs, hr, hrun, hended, hW, hsame⟩ := X29.leave (v := some (.int (nar .boolean (own_j0_68_0 i1 i2 j3 j4)))) (fun h => by rw [Bd.returns] at h; cases h)
    refine ⟨_, _, pre29 _ ?_, hrun, hended, _, _, rfl, ?_, ⟨_, rfl⟩, hW, hsame.mono (by decide) (by decide)⟩
    · show Steps p.tables e below (T29.setTop (mkF m 95 #[.val (.int i1), .val (.int i2), .val (.long j3), .second, .val (.long j4), .second, .val (.int i5), .val (.int (own_j0_3_0 i1)), .val (.int (own_j0_15_0 i1 i2)), .val (.ref b11), .val (.ref b16), .val (.long (own_j6_4_0 (own_j0_15_0 i1 i2) j3 j4)), .second] [(.int (own_j0_68_0 i1 i2 j3 j4))])) _
      exact retN X29 hx (t := .boolean) Bd.returns (by simp) (hb hby at_95) hr
    · show Q0 Z i1 i2 j3 j4 i5 w_DEFAULTCAPACITY_EMPTY_ELEMENTDATA h0 n0 _ T29.heap _
      rw [e29]
      exact ⟨congrArg (fun z => some (Value.int z)) (show (own_r0 i1 i2 j3 j4) = (nar .boolean (own_j0_68_0 i1 i2 j3 j4)) from (if_pos hc61_22)).symm, N29⟩
  · have pre30 : ∀ t, Steps p.tables e below (T20.setTop (mkF m 101 #[.val (.int i1), .val (.int i2), .val (.long j3), .second, .val (.long j4), .second, .val (.int i5), .val (.int (own_j0_3_0 i1)), .val (.int (own_j0_15_0 i1 i2)), .val (.ref b11), .val (.ref b16), .val (.long (own_j6_4_0 (own_j0_15_0 i1 i2) j3 j4)), .second] [(.int (lcmpW (own_j6_4_0 (own_j0_15_0 i1 i2) j3 j4) j4))])) t → Steps p.tables e below (s₁.setTop (entryFrame m #[(.int i1), (.int i2), (.long j3), (.long j4), (.int i5)] maxLocals)) t := by
      intro t k
      refine pre21 _ ?_
      show Steps p.tables e below (T20.setTop (mkF m 61 #[.val (.int i1), .val (.int i2), .val (.long j3), .second, .val (.long j4), .second, .val (.int i5), .val (.int (own_j0_3_0 i1)), .val (.int (own_j0_15_0 i1 i2)), .val (.ref b11), .val (.ref b16), .val (.long (own_j6_4_0 (own_j0_15_0 i1 i2) j3 j4)), .second] [(.int (own_j0_15_0 i1 i2))])) _
      refine XS.ifYes X20.here hx rfl (pc0 := 61) (pc' := 96) rfl (hb hby at_61) rfl ((if0 _ _).trans (feq hc61_22).2) (by decide) (by decide) ?_
      show Steps p.tables e below (T20.setTop (mkF m 96 #[.val (.int i1), .val (.int i2), .val (.long j3), .second, .val (.long j4), .second, .val (.int i5), .val (.int (own_j0_3_0 i1)), .val (.int (own_j0_15_0 i1 i2)), .val (.ref b11), .val (.ref b16), .val (.long (own_j6_4_0 (own_j0_15_0 i1 i2) j3 j4)), .second] [])) _
      refine XS.lload X20.here hx rfl (hb hby at_96) rfl ?_
      show Steps p.tables e below (T20.setTop (mkF m 98 #[.val (.int i1), .val (.int i2), .val (.long j3), .second, .val (.long j4), .second, .val (.int i5), .val (.int (own_j0_3_0 i1)), .val (.int (own_j0_15_0 i1 i2)), .val (.ref b11), .val (.ref b16), .val (.long (own_j6_4_0 (own_j0_15_0 i1 i2) j3 j4)), .second] [(.long (own_j6_4_0 (own_j0_15_0 i1 i2) j3 j4))])) _
      refine XS.lload X20.here hx rfl (hb hby at_98) rfl ?_
      show Steps p.tables e below (T20.setTop (mkF m 100 #[.val (.int i1), .val (.int i2), .val (.long j3), .second, .val (.long j4), .second, .val (.int i5), .val (.int (own_j0_3_0 i1)), .val (.int (own_j0_15_0 i1 i2)), .val (.ref b11), .val (.ref b16), .val (.long (own_j6_4_0 (own_j0_15_0 i1 i2) j3 j4)), .second] [(.long j4), (.long (own_j6_4_0 (own_j0_15_0 i1 i2) j3 j4))])) _
      refine XS.lcmp X20.here hx rfl (hb hby at_100) rfl ?_
      exact k
    obtain ⟨T35, Lq35, X35, N35, e35, pre35⟩ : ∃ (T' : State) (locs' : List Loc), Stand p l e room_1 s m #[(.int i1), (.int i2), (.long j3), (.long j4), (.int i5)] below meth c T' locs' 2 8 ∧ Fr n0 locs' ∧ T'.heap = T18.heap ∧ ∀ t, Steps p.tables e below (T'.setTop (mkF m 119 #[.val (.int i1), .val (.int i2), .val (.long j3), .second, .val (.long j4), .second, .val (.int i5), .val (.int (own_j0_3_0 i1)), .val (.int (own_j0_15_0 i1 i2)), .val (.ref b11), .val (.ref b16), .val (.long (own_j6_4_0 (own_j0_15_0 i1 i2) j3 j4)), .second] [(.int (own_j0_101_0 i1 i2 j3 j4))])) t → Steps p.tables e below (s₁.setTop (entryFrame m #[(.int i1), (.int i2), (.long j3), (.long j4), (.int i5)] maxLocals)) t := by
      by_cases hc101_31 : (own_j6_4_0 (own_j0_15_0 i1 i2) j3 j4) = j4
      · obtain ⟨cq32, kq32, q32a, q32b, q32c⟩ := isOf hZ e20 f18_0
        obtain ⟨_, _, ⟨T32, L32, k32, n32⟩, -, X32, ⟨Lc32, hQ32, l32, y32, z32⟩, st32⟩ := X20.virtualBack hx (y := (⟨"com/example/arpol/arpol/PolicyReading", "unfinishedLine", "()I"⟩ : MethodName)) (z := (⟨"com/example/arpol/arpol/PolicyReading", "unfinishedLine", "()I"⟩ : MethodName)) hown (mvT hZ (hw _ (List.mem_of_getElem? (i := 48) rfl))) (mvT hZ (hw _ (List.mem_of_getElem? (i := 49) rfl))) (notFace_of_selects (args := #[]) (mvT hZ (hw _ (List.mem_of_getElem? (i := 51) rfl)))) (mvT hZ (hw _ (List.mem_of_getElem? (i := 51) rfl))) (mvT hZ (hw _ (List.mem_of_getElem? (i := 50) rfl))) (by decide) (backOf (W := 0) (rm7 l Z a0 hw [] b16 (own_j0_15_0 i1 i2) T18.heap n0 (Nat.le_trans Z0 K19.1) f18_4) hZ (hw _ (List.mem_of_getElem? (i := 52) rfl)) (hw _ (List.mem_of_getElem? (i := 28) rfl)) (by decide) (by decide)) q32a q32c (g := (mkF m 106 #[.val (.int i1), .val (.int i2), .val (.long j3), .second, .val (.long j4), .second, .val (.int i5), .val (.int (own_j0_3_0 i1)), .val (.int (own_j0_15_0 i1 i2)), .val (.ref b11), .val (.ref b16), .val (.long (own_j6_4_0 (own_j0_15_0 i1 i2) j3 j4)), .second] [(.ref b16)])) rfl (by rw [hml]; rfl) (Steps.refl _) (argsL := []) (rest := []) (lenOf pd_3 rfl) rfl (by show 2 * 0 + _ ≤ _; exact Nat.le_of_eq rfl) (hb hby at_106) (fun _ _ => ⟨rfl, e20, (by decide : 2 + 0 ≤ _), (by decide : 8 + 0 ≤ _)⟩)
        dsimp only [Pt.U, Pt.locs, Pt.cells, Pt.slots] at X32 l32 y32 z32 st32 hQ32
        subst l32 y32 z32
        obtain ⟨rfl, Nq32, e32⟩ := hQ32
        have N32 := Fr.app N20 Nq32
        have pre33 : ∀ t, Steps p.tables e below (T32.setTop (mkF m 119 #[.val (.int i1), .val (.int i2), .val (.long j3), .second, .val (.long j4), .second, .val (.int i5), .val (.int (own_j0_3_0 i1)), .val (.int (own_j0_15_0 i1 i2)), .val (.ref b11), .val (.ref b16), .val (.long (own_j6_4_0 (own_j0_15_0 i1 i2) j3 j4)), .second] [(.int (1 : Int32))])) t → Steps p.tables e below (s₁.setTop (entryFrame m #[(.int i1), (.int i2), (.long j3), (.long j4), (.int i5)] maxLocals)) t := by
          intro t k
          refine pre30 _ ?_
          show Steps p.tables e below (T20.setTop (mkF m 101 #[.val (.int i1), .val (.int i2), .val (.long j3), .second, .val (.long j4), .second, .val (.int i5), .val (.int (own_j0_3_0 i1)), .val (.int (own_j0_15_0 i1 i2)), .val (.ref b11), .val (.ref b16), .val (.long (own_j6_4_0 (own_j0_15_0 i1 i2) j3 j4)), .second] [(.int (lcmpW (own_j6_4_0 (own_j0_15_0 i1 i2) j3 j4) j4))])) _
          refine XS.ifNo X20.here hx rfl (hb hby at_101) rfl ((if0 _ _).trans (teq ((lw_eq (own_j6_4_0 (own_j0_15_0 i1 i2) j3 j4) j4).mpr hc101_31)).2) ?_
          show Steps p.tables e below (T20.setTop (mkF m 104 #[.val (.int i1), .val (.int i2), .val (.long j3), .second, .val (.long j4), .second, .val (.int i5), .val (.int (own_j0_3_0 i1)), .val (.int (own_j0_15_0 i1 i2)), .val (.ref b11), .val (.ref b16), .val (.long (own_j6_4_0 (own_j0_15_0 i1 i2) j3 j4)), .second] [])) _
          refine XS.aload X20.here hx rfl (hb hby at_104) rfl rfl ?_
          show Steps p.tables e below (T20.setTop (mkF m 106 #[.val (.int i1), .val (.int i2), .val (.long j3), .second, .val (.long j4), .second, .val (.int i5), .val (.int (own_j0_3_0 i1)), .val (.int (own_j0_15_0 i1 i2)), .val (.ref b11), .val (.ref b16), .val (.long (own_j6_4_0 (own_j0_15_0 i1 i2) j3 j4)), .second] [(.ref b16)])) _
          refine st32.trans ?_
          show Steps p.tables e below (T32.setTop (mkF m 109 #[.val (.int i1), .val (.int i2), .val (.long j3), .second, .val (.long j4), .second, .val (.int i5), .val (.int (own_j0_3_0 i1)), .val (.int (own_j0_15_0 i1 i2)), .val (.ref b11), .val (.ref b16), .val (.long (own_j6_4_0 (own_j0_15_0 i1 i2) j3 j4)), .second] [(.int (own_j0_15_0 i1 i2))])) _
          refine XS.iload X32.here hx rfl (hb hby at_109) rfl ?_
          show Steps p.tables e below (T32.setTop (mkF m 111 #[.val (.int i1), .val (.int i2), .val (.long j3), .second, .val (.long j4), .second, .val (.int i5), .val (.int (own_j0_3_0 i1)), .val (.int (own_j0_15_0 i1 i2)), .val (.ref b11), .val (.ref b16), .val (.long (own_j6_4_0 (own_j0_15_0 i1 i2) j3 j4)), .second] [(.int (own_j0_15_0 i1 i2)), (.int (own_j0_15_0 i1 i2))])) _
          refine XS.icmpNo X32.here hx rfl (hb hby at_111) rfl (teq (rfl : (own_j0_15_0 i1 i2) = (own_j0_15_0 i1 i2))).2 ?_
          show Steps p.tables e below (T32.setTop (mkF m 114 #[.val (.int i1), .val (.int i2), .val (.long j3), .second, .val (.long j4), .second, .val (.int i5), .val (.int (own_j0_3_0 i1)), .val (.int (own_j0_15_0 i1 i2)), .val (.ref b11), .val (.ref b16), .val (.long (own_j6_4_0 (own_j0_15_0 i1 i2) j3 j4)), .second] [])) _
          refine XS.iconst X32.here hx rfl (hb hby at_114) ?_
          show Steps p.tables e below (T32.setTop (mkF m 115 #[.val (.int i1), .val (.int i2), .val (.long j3), .second, .val (.long j4), .second, .val (.int i5), .val (.int (own_j0_3_0 i1)), .val (.int (own_j0_15_0 i1 i2)), .val (.ref b11), .val (.ref b16), .val (.long (own_j6_4_0 (own_j0_15_0 i1 i2) j3 j4)), .second] [(.int (1 : Int32))])) _
          refine XS.goto X32.here hx rfl (pc0 := 115) (pc' := 119) rfl (hb hby at_115) (by decide) (by decide) ?_
          exact k
        exact ⟨T32, _, X32, N32, e32, fun t k => pre33 t (by rw [show (own_j0_101_0 i1 i2 j3 j4) = (1 : Int32) from (if_pos hc101_31)] at k; exact k)⟩
      · have pre34 : ∀ t, Steps p.tables e below (T20.setTop (mkF m 119 #[.val (.int i1), .val (.int i2), .val (.long j3), .second, .val (.long j4), .second, .val (.int i5), .val (.int (own_j0_3_0 i1)), .val (.int (own_j0_15_0 i1 i2)), .val (.ref b11), .val (.ref b16), .val (.long (own_j6_4_0 (own_j0_15_0 i1 i2) j3 j4)), .second] [(.int (0 : Int32))])) t → Steps p.tables e below (s₁.setTop (entryFrame m #[(.int i1), (.int i2), (.long j3), (.long j4), (.int i5)] maxLocals)) t := by
          intro t k
          refine pre30 _ ?_
          show Steps p.tables e below (T20.setTop (mkF m 101 #[.val (.int i1), .val (.int i2), .val (.long j3), .second, .val (.long j4), .second, .val (.int i5), .val (.int (own_j0_3_0 i1)), .val (.int (own_j0_15_0 i1 i2)), .val (.ref b11), .val (.ref b16), .val (.long (own_j6_4_0 (own_j0_15_0 i1 i2) j3 j4)), .second] [(.int (lcmpW (own_j6_4_0 (own_j0_15_0 i1 i2) j3 j4) j4))])) _
          refine XS.ifYes X20.here hx rfl (pc0 := 101) (pc' := 118) rfl (hb hby at_101) rfl ((if0 _ _).trans (feq (mt (lw_eq (own_j6_4_0 (own_j0_15_0 i1 i2) j3 j4) j4).mp hc101_31)).2) (by decide) (by decide) ?_
          show Steps p.tables e below (T20.setTop (mkF m 118 #[.val (.int i1), .val (.int i2), .val (.long j3), .second, .val (.long j4), .second, .val (.int i5), .val (.int (own_j0_3_0 i1)), .val (.int (own_j0_15_0 i1 i2)), .val (.ref b11), .val (.ref b16), .val (.long (own_j6_4_0 (own_j0_15_0 i1 i2) j3 j4)), .second] [])) _
          refine XS.iconst X20.here hx rfl (hb hby at_118) ?_
          exact k
        exact ⟨T20, _, X20, N20, e20, fun t k => pre34 t (by rw [show (own_j0_101_0 i1 i2 j3 j4) = (0 : Int32) from (if_neg hc101_31)] at k; exact k)⟩
    obtain ⟨fs, hr, hrun, hended, hW, hsame⟩ := X35.leave (v := some (.int (nar .boolean (own_j0_101_0 i1 i2 j3 j4)))) (fun h => by rw [Bd.returns] at h; cases h)
    refine ⟨_, _, pre35 _ ?_, hrun, hended, _, _, rfl, ?_, ⟨_, rfl⟩, hW, hsame.mono (by decide) (by decide)⟩
    · show Steps p.tables e below (T35.setTop (mkF m 119 #[.val (.int i1), .val (.int i2), .val (.long j3), .second, .val (.long j4), .second, .val (.int i5), .val (.int (own_j0_3_0 i1)), .val (.int (own_j0_15_0 i1 i2)), .val (.ref b11), .val (.ref b16), .val (.long (own_j6_4_0 (own_j0_15_0 i1 i2) j3 j4)), .second] [(.int (own_j0_101_0 i1 i2 j3 j4))])) _
      exact retN X35 hx (t := .boolean) Bd.returns (by simp) (hb hby at_119) hr
    · show Q0 Z i1 i2 j3 j4 i5 w_DEFAULTCAPACITY_EMPTY_ELEMENTDATA h0 n0 _ T35.heap _
      rw [e35]
      exact ⟨congrArg (fun z => some (Value.int z)) (show (own_r0 i1 i2 j3 j4) = (nar .boolean (own_j0_101_0 i1 i2 j3 j4)) from (if_neg hc61_22)).symm, N35⟩
theorem own_law (i1 : Int32) (i2 : Int32) (j3 : Int64) (j4 : Int64) (i5 : Int32) : (own_r0 i1 i2 j3 j4) = 1 := by
  unfold own_r0
  by_cases h : own_j0_15_0 i1 i2 = 0
  · rw [if_pos h]
    exact own_nar1 (if_pos (if_pos h))
  · rw [if_neg h]
    exact own_nar1 (if_pos (if_neg h))
set_option maxRecDepth 65536 in
set_option maxHeartbeats 40000000 in
theorem comes_1 {Post : Tables → Env → Array Value → State → Outcome → State → Prop} (hpost : ∀ tb e args s v u, (limb_1_1.after args s (.returned v) u = true ∧ limb_1_2.after args s (.returned v) u = true ∧ True) → FrameEnd s (.returned v) u (Jvm.fieldLocs frame_1_writes args s ++ Jvm.arrayLocs frame_1_arrays args s ++ Jvm.staticLocs frame_1_statics s) 16 128 → Post tb e args s (.returned v) u) :
    ArmFor flags0 classFile x code maxLocals ret World_1 tables_1 room_1 Calls_1 rest_1 Pre_1 Post := by
  intro l hfl _ _ p e ha hc hk s m args below hf hA hF happ hP
  obtain ⟨hcalls, hrest, hpre⟩ := hP
  obtain ⟨-, -, -, hnamed, -, -, -, hat⟩ := (Spec.applies_iff hf).mp happ
  obtain ⟨hg, hn⟩ := and_e (Cond.before_iff.mp (show (Jvm.Cond.and given_1 narrow_1).before args s = true from hpre))
  obtain ⟨g1, g2⟩ := and_e hg
  obtain ⟨g3, g4⟩ := and_e g2
  obtain ⟨g5, g6⟩ := and_e g4
  obtain ⟨g7, g8⟩ := and_e g6
  obtain ⟨g9, g10⟩ := and_e g8
  obtain ⟨w0, w1, w2, w3, w4, rfl⟩ : ∃ w0 w1 w2 w3 w4 : Value, args = #[w0, w1, w2, w3, w4] := by
    have hs : args.size = 5 := by simpa [Cond.value, given_1] using g1
    obtain ⟨L⟩ := args
    match L, hs with
    | [w0, w1, w2, w3, w4], _ => exact ⟨w0, w1, w2, w3, w4, rfl⟩
  have hw := fun d (hd : d ∈ tables_1) => atoms_spec (ws := Jvm.Cond.code x code maxLocals ret :: tables_1) hat d (List.mem_cons_of_mem _ hd)
  have hfit : Fit s := fun {y c} hc i hi => by
    obtain ⟨ha, rfl⟩ := Array.getElem?_eq_some_iff.mp hc
    have q := List.all_eq_true.mp ((Array.all_eq_true_iff_forall_mem.mp hF) _ (Array.getElem_mem ha)) i (List.mem_range.mpr hi)
    simpa [Array.getElem?_eq_getElem hi] using q
  obtain ⟨hsets, hown0⟩ := atoms_of _ (rest_1_c_eq ▸ (show rest_1_c.before _ s = true from hrest))
  obtain ⟨i0, ei0⟩ := is_v g3
  obtain rfl : w0 = (.int i0) := Option.some.inj ei0
  obtain ⟨i1, ei1⟩ := is_v g5
  obtain rfl : w1 = (.int i1) := Option.some.inj ei1
  obtain ⟨i2, ei2⟩ := isL_v g7
  obtain rfl : w2 = (.long i2) := Option.some.inj ei2
  obtain ⟨i3, ei3⟩ := isL_v g9
  obtain rfl : w3 = (.long i3) := Option.some.inj ei3
  obtain ⟨i4, ei4⟩ := is_v g10
  obtain rfl : w4 = (.int i4) := Option.some.inj ei4
  obtain ⟨w_DEFAULTCAPACITY_EMPTY_ELEMENTDATA, es_w_DEFAULTCAPACITY_EMPTY_ELEMENTDATA⟩ := arr_v (Cond.before_iff.mp (hsets _ (List.mem_of_getElem? (i := 6) rfl)))
  obtain ⟨n, o, h1, h2, h3, _, L, rfl, ⟨hv, N⟩, hq⟩ := rm0 l s _ hw tables_1 i0 i1 i2 i3 i4 w_DEFAULTCAPACITY_EMPTY_ELEMENTDATA s.heap s.heap.size (Nat.le_refl _) (Sta.start es_w_DEFAULTCAPACITY_EMPTY_ELEMENTDATA (Or.inr ⟨(hw _ (List.mem_of_getElem? (i := 2) rfl)), (hsets _ (List.mem_of_getElem? (i := 2) rfl))⟩)) (Old.start s) p e ha hc hk s m _ below hf ((Spec.applies_iff_loose hf).mp happ).1 ⟨rfl, State.Warmed39.refl s, rfl⟩ trivial
  rw [show (own_r0 i0 i1 i2 i3) = 1 from own_law i0 i1 i2 i3 i4] at hv
  subst hv
  refine ⟨n, _, h1, h2, h3, hpost _ _ _ _ _ _ ⟨Cond.after_iff.mpr rfl, Cond.after_iff.mpr (eq_i res_at (Term.int_eval (1)) rfl), trivial⟩ ⟨hq.1, hq.2.1, (hq.2.2.sift fun y hy => Or.inr (N y hy)).mono (by decide) (by decide)⟩⟩
theorem main_1_1 : Claimed_1_1 := comes_1 fun _ _ _ _ _ _ h hF => ⟨h.1, hF⟩
theorem main_1_2 : Claimed_1_2 := comes_1 fun _ _ _ _ _ _ h hF => ⟨h.2.1, hF⟩
end Jvm.Pilot.@@N@@
namespace Jvm.Pilot.@@N@@
open Jvm Jvm.ClassFile Sem Op Lib Jvm.Free Jvm.Stand Jvm.Pilot.@@N@@.Jvm.D
/-! MADE BY PROGRAM (witnessworld.py) out of the Statement's table words and the real class files: 18 classes; the members and pool entries that the words name. The judged class is class 1, her method 1. -/
namespace start1
open Jvm.ClassFile
def u (s : String) : CpInfo := .utf8 (stringToUtf16 s)
/-- a pool by its gaps: so many unusable entries, then the entry; so many at the end -/
def gap : Nat → List CpInfo → List CpInfo
  | 0, r => r
  | n + 1, r => .unusable :: gap n r
def poolList (es : List (Nat × CpInfo)) (last : Nat) : List CpInfo := es.foldr (fun e r => gap e.1 (e.2 :: r)) (gap last [])
def pool (es : List (Nat × CpInfo)) (last : Nat) : Array CpInfo := ⟨poolList es last⟩
def fileOf (pool : Array CpInfo) (this : Nat) (attrs : Array Attribute := #[]) (ms : Array MethodInfo := #[]) (fl : Nat := 33) (sup : Nat := 0) (ifs : Array Nat := #[]) (fds : Array FieldInfo := #[]) : ClassFile where
  minorVersion := 0
  majorVersion := 65
  constantPool := pool
  accessFlags := fl
  thisClass := this
  superClass := sup
  interfaces := ifs
  fields := fds
  methods := ms
  attributes := attrs
def plain (name : String) (sup : Option ClassId) : Class where
  name := name
  kind := .ordinary
  loader := none
  accessFlags := 33
  super := sup
  interfaces := #[]
  cf := none
  fields := #[]
  methods := #[]
  instanceTypes := #[]
  staticTypes := #[]
  resolved := #[]
  callSites := []
  init := .initialized
  statics := none
  mirror := none

def pool0 : Array CpInfo := pool [(5, u "<init>"), (0, u "()V"), (1, .class_ 10), (1, u "java/lang/Object")] 113

def k0c0 : Code := { maxStack := 0, maxLocals := 1, code := object_method_1_code, exceptionTable := #[], attributes := #[] }
def k0m0 : Method := { name := "<init>", desc := "()V", sig := { parameters := [], returnType := none }, accessFlags := 1, code := some k0c0 }
/-- java/lang/Object -/
def k0 : Class := { plain "java/lang/Object" none with
  accessFlags := 33
  interfaces := #[]
  cf := some (fileOf pool0 8 #[] #[{ accessFlags := 1, nameIndex := 5, descriptorIndex := 6, attributes := #[] }] 33 0 #[] #[])
  fields := #[]
  methods := #[k0m0]
  instanceTypes := #[]
  staticTypes := #[]
  resolved := Array.replicate 124 none
  statics := none }

def pool1 : Array CpInfo := pool [(2, .class_ 4), (0, .nameAndType 5 6), (0, u "java/lang/Object"), (0, u "<init>"), (0, u "()V"), (0, .class_ 8), (0, u "java/util/ArrayList"), (0, .methodref 7 3), (0, .class_ 11), (0, u "com/example/arpol/arpol/PolicyReading"), (0, .methodref 10 13), (0, .nameAndType 5 14), (0, u "(Ljava/util/List;IJIJ)V"), (0, .methodref 10 16), (0, .nameAndType 17 18), (0, u "finishedLength"), (0, u "()J"), (0, .methodref 10 20), (0, .nameAndType 21 18), (0, u "length"), (0, .methodref 10 23), (0, .nameAndType 24 25), (0, u "unfinishedLine"), (0, u "()I"), (0, .class_ 27), (0, u "com/example/arpol/arpol/PolicyReadingFinishedLengthPinLaw"), (2, u "law"), (0, u "(IIJJI)Z")] 3

def k1m0 : Method := { name := "<init>", desc := "()V", sig := { parameters := [], returnType := none }, accessFlags := 1, code := none }
def k1c1 : Code := { maxStack := 9, maxLocals := 13, code := code, exceptionTable := #[], attributes := #[] }
def k1m1 : Method := { name := "law", desc := "(IIJJI)Z", sig := { parameters := [.int, .int, .long, .long, .int], returnType := some .boolean }, accessFlags := 9, code := some k1c1 }
/-- com/example/arpol/arpol/PolicyReadingFinishedLengthPinLaw -/
def k1 : Class := { plain "com/example/arpol/arpol/PolicyReadingFinishedLengthPinLaw" (some 0) with
  accessFlags := 49
  interfaces := #[]
  cf := some (fileOf pool1 26 #[] #[{ accessFlags := 1, nameIndex := 5, descriptorIndex := 6, attributes := #[] }, { accessFlags := 9, nameIndex := 30, descriptorIndex := 31, attributes := #[] }] 49 2 #[] #[])
  fields := #[]
  methods := #[k1m0, k1m1]
  instanceTypes := #[]
  staticTypes := #[]
  resolved := Array.replicate 35 none
  statics := none }

def pool2 : Array CpInfo := pool [(8, .class_ 10), (1, u "java/lang/Iterable"), (24, .class_ 36), (0, u "java/lang/Object")] 25

/-- java/lang/Iterable -/
def k2 : Class := { plain "java/lang/Iterable" (some 0) with
  accessFlags := 1537
  interfaces := #[]
  cf := some (fileOf pool2 8 #[] #[] 1537 35 #[] #[])
  fields := #[]
  methods := #[]
  instanceTypes := #[]
  staticTypes := #[]
  resolved := Array.replicate 62 none
  statics := none }

def pool3 : Array CpInfo := pool [(10, .class_ 12), (1, u "java/util/Collection"), (47, .class_ 61), (0, u "java/lang/Object"), (0, .class_ 63), (0, u "java/lang/Iterable")] 51

/-- java/util/Collection -/
def k3 : Class := { plain "java/util/Collection" (some 0) with
  accessFlags := 1537
  interfaces := #[2]
  cf := some (fileOf pool3 10 #[] #[] 1537 60 #[62] #[])
  fields := #[]
  methods := #[]
  instanceTypes := #[]
  staticTypes := #[]
  resolved := Array.replicate 115 none
  statics := none }

def pool4 : Array CpInfo := pool [(1, .methodref 2 3), (0, .class_ 4), (0, .nameAndType 5 6), (0, u "java/lang/Object"), (0, u "<init>"), (0, u "()V"), (1, .class_ 10), (1, u "java/util/AbstractCollection"), (66, .class_ 78), (0, u "java/util/Collection")] 81

def k4c0 : Code := { maxStack := 1, maxLocals := 1, code := jdk_22_method_1_code, exceptionTable := #[], attributes := #[] }
def k4m0 : Method := { name := "<init>", desc := "()V", sig := { parameters := [], returnType := none }, accessFlags := 4, code := some k4c0 }
/-- java/util/AbstractCollection -/
def k4 : Class := { plain "java/util/AbstractCollection" (some 0) with
  accessFlags := 1057
  interfaces := #[3]
  cf := some (fileOf pool4 8 #[] #[{ accessFlags := 4, nameIndex := 5, descriptorIndex := 6, attributes := #[] }] 1057 2 #[77] #[])
  fields := #[]
  methods := #[k4m0]
  instanceTypes := #[]
  staticTypes := #[]
  resolved := Array.replicate 160 none
  statics := none }

def pool5 : Array CpInfo := pool [(8, .class_ 10), (1, u "java/util/SequencedCollection"), (15, .class_ 27), (0, u "java/lang/Object"), (0, .class_ 29), (0, u "java/util/Collection")] 27

/-- java/util/SequencedCollection -/
def k5 : Class := { plain "java/util/SequencedCollection" (some 0) with
  accessFlags := 1537
  interfaces := #[3]
  cf := some (fileOf pool5 8 #[] #[] 1537 26 #[28] #[])
  fields := #[]
  methods := #[]
  instanceTypes := #[]
  staticTypes := #[]
  resolved := Array.replicate 57 none
  statics := none }

def pool6 : Array CpInfo := pool [(8, .class_ 10), (1, u "java/util/List"), (92, .class_ 104), (0, u "java/lang/Object"), (15, .class_ 121), (0, u "java/util/SequencedCollection")] 129

/-- java/util/List -/
def k6 : Class := { plain "java/util/List" (some 0) with
  accessFlags := 1537
  interfaces := #[5]
  cf := some (fileOf pool6 8 #[] #[] 1537 103 #[120] #[])
  fields := #[]
  methods := #[]
  instanceTypes := #[]
  staticTypes := #[]
  resolved := Array.replicate 251 none
  statics := none }

def pool7 : Array CpInfo := pool [(1, .methodref 2 3), (0, .class_ 4), (0, .nameAndType 5 6), (0, u "java/util/AbstractCollection"), (0, u "<init>"), (0, u "()V"), (0, .fieldref 8 9), (0, .class_ 10), (0, .nameAndType 11 12), (0, u "java/util/AbstractList"), (0, u "modCount"), (0, u "I"), (64, .class_ 78), (0, u "java/util/AbstractList$Itr"), (3, .class_ 83), (0, u "java/util/AbstractList$ListItr"), (9, .class_ 94), (0, u "java/util/AbstractList$RandomAccessSubList"), (3, .class_ 99), (0, u "java/util/AbstractList$SubList"), (33, .class_ 134), (0, u "java/util/List"), (73, .class_ 209), (0, u "java/util/AbstractList$SubList$1"), (0, .class_ 211), (0, u "java/util/AbstractList$RandomAccessSpliterator")] 6

def k7c0 : Code := { maxStack := 2, maxLocals := 1, code := jdk_39_method_1_code, exceptionTable := #[], attributes := #[] }
def k7m0 : Method := { name := "<init>", desc := "()V", sig := { parameters := [], returnType := none }, accessFlags := 4, code := some k7c0 }
/-- java/util/AbstractList -/
def k7 : Class := { plain "java/util/AbstractList" (some 4) with
  accessFlags := 1057
  interfaces := #[6]
  cf := some (fileOf pool7 8 #[.nestMembers #[93, 98, 208, 210, 82, 77]] #[{ accessFlags := 4, nameIndex := 5, descriptorIndex := 6, attributes := #[] }] 1057 2 #[133] #[{ accessFlags := 132, nameIndex := 11, descriptorIndex := 12, attributes := #[] }])
  fields := #[{ name := "modCount", type := .int, accessFlags := 132, slot := 0, constantValue := 0 }]
  methods := #[k7m0]
  instanceTypes := #[.int]
  staticTypes := #[]
  resolved := Array.replicate 218 none
  statics := none }

def pool8 : Array CpInfo := pool [(1, .class_ 2), (0, u "java/util/RandomAccess"), (0, .class_ 4), (0, u "java/lang/Object")] 2

/-- java/util/RandomAccess -/
def k8 : Class := { plain "java/util/RandomAccess" (some 0) with
  accessFlags := 1537
  interfaces := #[]
  cf := some (fileOf pool8 1 #[] #[] 1537 3 #[] #[])
  fields := #[]
  methods := #[]
  instanceTypes := #[]
  staticTypes := #[]
  resolved := Array.replicate 7 none
  statics := none }

def pool9 : Array CpInfo := pool [(1, .class_ 2), (0, u "java/lang/Cloneable"), (0, .class_ 4), (0, u "java/lang/Object")] 2

/-- java/lang/Cloneable -/
def k9 : Class := { plain "java/lang/Cloneable" (some 0) with
  accessFlags := 1537
  interfaces := #[]
  cf := some (fileOf pool9 1 #[] #[] 1537 3 #[] #[])
  fields := #[]
  methods := #[]
  instanceTypes := #[]
  staticTypes := #[]
  resolved := Array.replicate 7 none
  statics := none }

def pool10 : Array CpInfo := pool [(1, .class_ 2), (0, u "java/io/Serializable"), (0, .class_ 4), (0, u "java/lang/Object")] 2

/-- java/io/Serializable -/
def k10 : Class := { plain "java/io/Serializable" (some 0) with
  accessFlags := 1537
  interfaces := #[]
  cf := some (fileOf pool10 1 #[] #[] 1537 3 #[] #[])
  fields := #[]
  methods := #[]
  instanceTypes := #[]
  staticTypes := #[]
  resolved := Array.replicate 7 none
  statics := none }

def pool11 : Array CpInfo := pool [(1, .methodref 2 3), (0, .class_ 4), (0, .nameAndType 5 6), (0, u "java/util/AbstractList"), (0, u "<init>"), (0, u "()V"), (2, .fieldref 10 11), (0, .class_ 12), (0, .nameAndType 13 14), (0, u "java/util/ArrayList"), (0, u "elementData"), (0, u "[Ljava/lang/Object;"), (2, u "EMPTY_ELEMENTDATA"), (21, .fieldref 10 40), (0, .nameAndType 41 14), (0, u "DEFAULTCAPACITY_EMPTY_ELEMENTDATA"), (8, u "size"), (0, u "I"), (96, .class_ 149), (0, u "java/util/List"), (112, .class_ 263), (0, u "java/util/ArrayList$ListItr"), (3, .class_ 268), (0, u "java/util/ArrayList$Itr"), (7, .class_ 277), (0, u "java/util/ArrayList$SubList"), (12, .class_ 291), (0, u "java/util/ArrayList$ArrayListSpliterator"), (37, .class_ 330), (0, u "java/util/RandomAccess"), (0, .class_ 332), (0, u "java/lang/Cloneable"), (0, .class_ 334), (0, u "java/io/Serializable"), (0, u "serialVersionUID"), (0, u "J"), (3, u "DEFAULT_CAPACITY"), (159, .class_ 501), (0, u "java/util/ArrayList$SubList$2"), (0, .class_ 503), (0, u "java/util/ArrayList$SubList$1")] 5

def k11c0 : Code := { maxStack := 2, maxLocals := 1, code := jdk_38_method_2_code, exceptionTable := #[], attributes := #[] }
def k11m0 : Method := { name := "<init>", desc := "()V", sig := { parameters := [], returnType := none }, accessFlags := 1, code := some k11c0 }
/-- java/util/ArrayList -/
def k11 : Class := { plain "java/util/ArrayList" (some 7) with
  accessFlags := 33
  interfaces := #[6, 8, 9, 10]
  cf := some (fileOf pool11 10 #[.nestMembers #[290, 276, 500, 502, 262, 267]] #[{ accessFlags := 1, nameIndex := 5, descriptorIndex := 6, attributes := #[] }] 33 2 #[148, 329, 331, 333] #[{ accessFlags := 26, nameIndex := 335, descriptorIndex := 336, attributes := #[] }, { accessFlags := 26, nameIndex := 340, descriptorIndex := 51, attributes := #[] }, { accessFlags := 26, nameIndex := 17, descriptorIndex := 14, attributes := #[] }, { accessFlags := 26, nameIndex := 41, descriptorIndex := 14, attributes := #[] }, { accessFlags := 128, nameIndex := 13, descriptorIndex := 14, attributes := #[] }, { accessFlags := 2, nameIndex := 50, descriptorIndex := 51, attributes := #[] }])
  fields := #[{ name := "serialVersionUID", type := .long, accessFlags := 26, slot := 0, constantValue := 0 }, { name := "DEFAULT_CAPACITY", type := .int, accessFlags := 26, slot := 1, constantValue := 0 }, { name := "EMPTY_ELEMENTDATA", type := (.array (.object "java/lang/Object")), accessFlags := 26, slot := 2, constantValue := 0 }, { name := "DEFAULTCAPACITY_EMPTY_ELEMENTDATA", type := (.array (.object "java/lang/Object")), accessFlags := 26, slot := 3, constantValue := 0 }, { name := "elementData", type := (.array (.object "java/lang/Object")), accessFlags := 128, slot := 1, constantValue := 0 }, { name := "size", type := .int, accessFlags := 2, slot := 2, constantValue := 0 }]
  methods := #[k11m0]
  instanceTypes := #[.int, (.array (.object "java/lang/Object")), .int]
  staticTypes := #[.long, .int, (.array (.object "java/lang/Object")), (.array (.object "java/lang/Object"))]
  resolved := Array.replicate 509 none
  statics := some 0 }

def pool12 : Array CpInfo := pool [(1, .methodref 2 3), (0, .class_ 4), (0, .nameAndType 5 6), (0, u "java/lang/Object"), (0, u "<init>"), (0, u "()V"), (0, .fieldref 8 9), (0, .class_ 10), (0, .nameAndType 11 12), (0, u "com/example/arpol/arpol/PolicyReading"), (0, u "errors"), (0, u "Ljava/util/List;"), (0, .fieldref 8 14), (0, .nameAndType 15 16), (0, u "statements"), (0, u "I"), (0, .fieldref 8 18), (0, .nameAndType 19 20), (0, u "length"), (0, u "J"), (0, .fieldref 8 22), (0, .nameAndType 23 16), (0, u "unfinishedLine"), (0, .fieldref 8 25), (0, .nameAndType 26 20), (0, u "unfinishedOffset"), (2, u "(Ljava/util/List;IJIJ)V"), (5, u "()I"), (0, u "()J"), (0, u "finishedLength")] 3

def k12c0 : Code := { maxStack := 3, maxLocals := 8, code := prog_11_method_1_code, exceptionTable := #[], attributes := #[] }
def k12m0 : Method := { name := "<init>", desc := "(Ljava/util/List;IJIJ)V", sig := { parameters := [(.object "java/util/List"), .int, .long, .int, .long], returnType := none }, accessFlags := 0, code := some k12c0 }
def k12c1 : Code := { maxStack := 2, maxLocals := 1, code := prog_11_method_4_code, exceptionTable := #[], attributes := #[] }
def k12m1 : Method := { name := "length", desc := "()J", sig := { parameters := [], returnType := some .long }, accessFlags := 1, code := some k12c1 }
def k12c2 : Code := { maxStack := 1, maxLocals := 1, code := prog_11_method_5_code, exceptionTable := #[], attributes := #[] }
def k12m2 : Method := { name := "unfinishedLine", desc := "()I", sig := { parameters := [], returnType := some .int }, accessFlags := 1, code := some k12c2 }
def k12c3 : Code := { maxStack := 2, maxLocals := 1, code := prog_11_method_6_code, exceptionTable := #[], attributes := #[] }
def k12m3 : Method := { name := "finishedLength", desc := "()J", sig := { parameters := [], returnType := some .long }, accessFlags := 1, code := some k12c3 }
/-- com/example/arpol/arpol/PolicyReading -/
def k12 : Class := { plain "com/example/arpol/arpol/PolicyReading" (some 0) with
  accessFlags := 33
  interfaces := #[]
  cf := some (fileOf pool12 8 #[] #[{ accessFlags := 0, nameIndex := 5, descriptorIndex := 29, attributes := #[] }, { accessFlags := 1, nameIndex := 19, descriptorIndex := 36, attributes := #[] }, { accessFlags := 1, nameIndex := 23, descriptorIndex := 35, attributes := #[] }, { accessFlags := 1, nameIndex := 37, descriptorIndex := 36, attributes := #[] }] 33 2 #[] #[{ accessFlags := 18, nameIndex := 11, descriptorIndex := 12, attributes := #[] }, { accessFlags := 18, nameIndex := 15, descriptorIndex := 16, attributes := #[] }, { accessFlags := 18, nameIndex := 19, descriptorIndex := 20, attributes := #[] }, { accessFlags := 18, nameIndex := 23, descriptorIndex := 16, attributes := #[] }, { accessFlags := 18, nameIndex := 26, descriptorIndex := 20, attributes := #[] }])
  fields := #[{ name := "errors", type := (.object "java/util/List"), accessFlags := 18, slot := 0, constantValue := 0 }, { name := "statements", type := .int, accessFlags := 18, slot := 1, constantValue := 0 }, { name := "length", type := .long, accessFlags := 18, slot := 2, constantValue := 0 }, { name := "unfinishedLine", type := .int, accessFlags := 18, slot := 3, constantValue := 0 }, { name := "unfinishedOffset", type := .long, accessFlags := 18, slot := 4, constantValue := 0 }]
  methods := #[k12m0, k12m1, k12m2, k12m3]
  instanceTypes := #[(.object "java/util/List"), .int, .long, .int, .long]
  staticTypes := #[]
  resolved := Array.replicate 41 none
  statics := none }

/-- the primitive byte -/
def k13 : Class := { plain "byte" none with kind := .primitive 'B', accessFlags := 0x411 }
/-- [B -/
def k14 : Class := { plain "[B" (some 0) with kind := .array 13 .byte, interfaces := #[9, 10], accessFlags := 1041 }

/-- the primitive int -/
def k15 : Class := { plain "int" none with kind := .primitive 'I', accessFlags := 0x411 }
/-- [I -/
def k16 : Class := { plain "[I" (some 0) with kind := .array 15 .int, interfaces := #[9, 10], accessFlags := 1041 }

/-- [Ljava/lang/Object; -/
def k17 : Class := { plain "[Ljava/lang/Object;" (some 0) with kind := .array 0 (.object "java/lang/Object"), interfaces := #[9, 10], accessFlags := 1041 }

def heap : Heap := #[{ cls := 11, slots := #[.long 0, .int 0, .ref 1, .ref 2], vm := .statics 11 },
  { cls := 17, slots := #[], vm := .none },
  { cls := 17, slots := #[], vm := .none }]
def classes : Array Class := #[k0, k1, k2, k3, k4, k5, k6, k7, k8, k9, k10, k11, k12, k13, k14, k15, k16, k17]
def interned : List (Array UInt16 × Addr) := []
def slotsUsed : Nat := 4
def theMethod : MethodId := ⟨1, 1⟩
def args0 : Array Value := #[.int 5, .int 6, .long 7, .long 8, .int 9]
def aboutOver (below : List Frame) : State where
  vm := { classes := classes, interned := interned.toArray }
  heap := heap
  slotsUsed := slotsUsed
  threads := #[{ frames := .invoking theMethod args0 :: below }]
def below0 : List Frame := [.native { method := ⟨0, 0⟩, args := #[] }]
def about1 : State := aboutOver below0
def p0 : Program := .bare "" "" ""
def e0 : Env := launch0.env 0 0 0
theorem w_frames : about1.frames = Frame.invoking theMethod args0 :: below0 := rfl
set_option maxRecDepth 65536 in
theorem w_args : argsFit about1.vm theMethod args0 = true := by decide +kernel
set_option maxRecDepth 65536 in
theorem w_heap : heapFits about1 = true := by decide +kernel
set_option maxRecDepth 65536 in
theorem w_runnable : about1.curStatus? = some .runnable := by decide +kernel
set_option maxRecDepth 65536 in
theorem w_alone : about1.alone = true := by decide +kernel
set_option maxRecDepth 65536 in
theorem w_named : about1.methodNamed? x = some theMethod := by decide +kernel
set_option maxRecDepth 65536 in
theorem w_hears : about1.hears theMethod below0 = true := by decide +kernel
set_option maxRecDepth 65536 in
theorem w_ripe : about1.ripe theMethod args0 below0 = true := by decide +kernel
theorem w_running : about1.status = .running := rfl
set_option maxRecDepth 65536 in
theorem w_room : about1.hasRoom e0.platform room_1 = true :=
  launch0.hasRoom_least _ room_1 (by decide +kernel) (by decide +kernel) (by decide +kernel) (by decide +kernel) (by decide +kernel) (by decide +kernel)
theorem allAtoms_all (ts : List Jvm.Cond) (a : Array Jvm.Value) (st : Jvm.State) : (allAtoms ts).before a st = ts.all (fun c => c.before a st) := by
  induction ts with
  | nil => rfl
  | cons c t ih =>
    show (Jvm.Cond.and c (allAtoms t)).before a st = _
    rw [Jvm.Cond.before_and, ih, List.all_cons]
def words1 : List Jvm.Cond := Jvm.Cond.code x code maxLocals ret :: tables_1
/-- a 'code' word, met by the world's own term for the bytes: nothing is compared byte by byte -/
theorem code_word {y : MethodName} {bytes : ByteArray} {mx : Nat} {rt : Option FieldType} {a : Array Value} {s : State} {m : MethodId} {meth : Method} {c : Code} (h1 : s.methodNamed? y = some m) (h2 : s.vm.method? m = some meth) (h3 : meth.code = some c) (h4 : c.code = bytes)
    (h5 : (c.maxLocals == mx && c.exceptionTable.isEmpty && decide (c.maxStack ≤ mostOperands) && decide (meth.sig.returnType = rt) && !meth.locks && decide (parseMethodDescriptor y.desc = some meth.sig)) = true) : (Jvm.Cond.code y bytes mx rt).before a s = true := by
  simp only [Bool.and_eq_true, beq_iff_eq, Bool.not_eq_true', decide_eq_true_eq] at h5
  obtain ⟨⟨⟨⟨⟨g1, g2⟩, g3⟩, g4⟩, g5⟩, g6⟩ := h5
  simp [Cond.before, Cond.holds, Cond.value, h1, h2, h3, h4, g1, g2, g3, g4, g5, g6]
def isCode : Jvm.Cond → Bool
  | .code _ _ _ _ => true
  | _ => false
theorem all_split {L : List Jvm.Cond} {P : Jvm.Cond → Bool} (h1 : L.all (fun c => isCode c || P c) = true) (h2 : ∀ c ∈ L.filter isCode, P c = true) : L.all P = true := by
  refine List.all_eq_true.mpr fun c hc => ?_
  have h := List.all_eq_true.mp h1 c hc
  rcases Bool.eq_false_or_eq_true (isCode c) with hi | hi
  · exact h2 c (List.mem_filter.mpr ⟨hc, hi⟩)
  · simpa [hi] using h
set_option maxRecDepth 65536 in
theorem w_c0 : (Jvm.Cond.code x code maxLocals ret).before args0 about1 = true := code_word (m := ⟨1, 1⟩) (meth := k1m1) (c := k1c1) (by decide +kernel) rfl rfl rfl (by decide +kernel)
set_option maxRecDepth 65536 in
theorem w_c1 : (Jvm.Cond.code ({ cls := "java/util/ArrayList", name := "<init>", desc := "()V" } : Jvm.MethodName) jdk_38_method_2_code (1 : Nat) (Option.none : Option Jvm.ClassFile.FieldType)).before args0 about1 = true := code_word (m := ⟨11, 0⟩) (meth := k11m0) (c := k11c0) (by decide +kernel) rfl rfl rfl (by decide +kernel)
set_option maxRecDepth 65536 in
theorem w_c2 : (Jvm.Cond.code ({ cls := "java/util/AbstractList", name := "<init>", desc := "()V" } : Jvm.MethodName) jdk_39_method_1_code (1 : Nat) (Option.none : Option Jvm.ClassFile.FieldType)).before args0 about1 = true := code_word (m := ⟨7, 0⟩) (meth := k7m0) (c := k7c0) (by decide +kernel) rfl rfl rfl (by decide +kernel)
set_option maxRecDepth 65536 in
theorem w_c3 : (Jvm.Cond.code ({ cls := "java/util/AbstractCollection", name := "<init>", desc := "()V" } : Jvm.MethodName) jdk_22_method_1_code (1 : Nat) (Option.none : Option Jvm.ClassFile.FieldType)).before args0 about1 = true := code_word (m := ⟨4, 0⟩) (meth := k4m0) (c := k4c0) (by decide +kernel) rfl rfl rfl (by decide +kernel)
set_option maxRecDepth 65536 in
theorem w_c4 : (Jvm.Cond.code ({ cls := "java/lang/Object", name := "<init>", desc := "()V" } : Jvm.MethodName) object_method_1_code (1 : Nat) (Option.none : Option Jvm.ClassFile.FieldType)).before args0 about1 = true := code_word (m := ⟨0, 0⟩) (meth := k0m0) (c := k0c0) (by decide +kernel) rfl rfl rfl (by decide +kernel)
set_option maxRecDepth 65536 in
theorem w_c5 : (Jvm.Cond.code ({ cls := "com/example/arpol/arpol/PolicyReading", name := "<init>", desc := "(Ljava/util/List;IJIJ)V" } : Jvm.MethodName) prog_11_method_1_code (8 : Nat) (Option.none : Option Jvm.ClassFile.FieldType)).before args0 about1 = true := code_word (m := ⟨12, 0⟩) (meth := k12m0) (c := k12c0) (by decide +kernel) rfl rfl rfl (by decide +kernel)
set_option maxRecDepth 65536 in
theorem w_c6 : (Jvm.Cond.code ({ cls := "com/example/arpol/arpol/PolicyReading", name := "finishedLength", desc := "()J" } : Jvm.MethodName) prog_11_method_6_code (1 : Nat) (Option.some Jvm.ClassFile.FieldType.long)).before args0 about1 = true := code_word (m := ⟨12, 3⟩) (meth := k12m3) (c := k12c3) (by decide +kernel) rfl rfl rfl (by decide +kernel)
set_option maxRecDepth 65536 in
theorem w_c7 : (Jvm.Cond.code ({ cls := "com/example/arpol/arpol/PolicyReading", name := "unfinishedLine", desc := "()I" } : Jvm.MethodName) prog_11_method_5_code (1 : Nat) (Option.some Jvm.ClassFile.FieldType.int)).before args0 about1 = true := code_word (m := ⟨12, 2⟩) (meth := k12m2) (c := k12c2) (by decide +kernel) rfl rfl rfl (by decide +kernel)
set_option maxRecDepth 65536 in
theorem w_c8 : (Jvm.Cond.code ({ cls := "com/example/arpol/arpol/PolicyReading", name := "length", desc := "()J" } : Jvm.MethodName) prog_11_method_4_code (1 : Nat) (Option.some Jvm.ClassFile.FieldType.long)).before args0 about1 = true := code_word (m := ⟨12, 1⟩) (meth := k12m1) (c := k12c1) (by decide +kernel) rfl rfl rfl (by decide +kernel)
def codes1 : List Jvm.Cond := [Jvm.Cond.code x code maxLocals ret, Jvm.Cond.code ({ cls := "java/util/ArrayList", name := "<init>", desc := "()V" } : Jvm.MethodName) jdk_38_method_2_code (1 : Nat) (Option.none : Option Jvm.ClassFile.FieldType), Jvm.Cond.code ({ cls := "java/util/AbstractList", name := "<init>", desc := "()V" } : Jvm.MethodName) jdk_39_method_1_code (1 : Nat) (Option.none : Option Jvm.ClassFile.FieldType), Jvm.Cond.code ({ cls := "java/util/AbstractCollection", name := "<init>", desc := "()V" } : Jvm.MethodName) jdk_22_method_1_code (1 : Nat) (Option.none : Option Jvm.ClassFile.FieldType), Jvm.Cond.code ({ cls := "java/lang/Object", name := "<init>", desc := "()V" } : Jvm.MethodName) object_method_1_code (1 : Nat) (Option.none : Option Jvm.ClassFile.FieldType), Jvm.Cond.code ({ cls := "com/example/arpol/arpol/PolicyReading", name := "<init>", desc := "(Ljava/util/List;IJIJ)V" } : Jvm.MethodName) prog_11_method_1_code (8 : Nat) (Option.none : Option Jvm.ClassFile.FieldType), Jvm.Cond.code ({ cls := "com/example/arpol/arpol/PolicyReading", name := "finishedLength", desc := "()J" } : Jvm.MethodName) prog_11_method_6_code (1 : Nat) (Option.some Jvm.ClassFile.FieldType.long), Jvm.Cond.code ({ cls := "com/example/arpol/arpol/PolicyReading", name := "unfinishedLine", desc := "()I" } : Jvm.MethodName) prog_11_method_5_code (1 : Nat) (Option.some Jvm.ClassFile.FieldType.int), Jvm.Cond.code ({ cls := "com/example/arpol/arpol/PolicyReading", name := "length", desc := "()J" } : Jvm.MethodName) prog_11_method_4_code (1 : Nat) (Option.some Jvm.ClassFile.FieldType.long)]
set_option maxRecDepth 65536 in
theorem codes_eq : words1.filter isCode = codes1 := rfl
theorem w_codes : ∀ c ∈ words1.filter isCode, c.before args0 about1 = true := by
  rw [codes_eq]
  intro c hc
  simp only [codes1, List.mem_cons, List.not_mem_nil, or_false] at hc
  rcases hc with rfl | rfl | rfl | rfl | rfl | rfl | rfl | rfl | rfl
  · exact w_c0
  · exact w_c1
  · exact w_c2
  · exact w_c3
  · exact w_c4
  · exact w_c5
  · exact w_c6
  · exact w_c7
  · exact w_c8
set_option maxRecDepth 65536 in
theorem w_t1 : (words1.take 24).all (fun c => isCode c || c.before args0 about1) = true := by decide +kernel
set_option maxRecDepth 65536 in
theorem w_t2 : ((words1.drop 24).take 24).all (fun c => isCode c || c.before args0 about1) = true := by decide +kernel
set_option maxRecDepth 65536 in
theorem w_t3 : ((words1.drop 24).drop 24).all (fun c => isCode c || c.before args0 about1) = true := by decide +kernel
theorem w_tables : (allAtoms (Jvm.Cond.code x code maxLocals ret :: tables_1)).before args0 about1 = true := by
  rw [allAtoms_all]
  show words1.all (fun c => c.before args0 about1) = true
  refine all_split ?_ w_codes
  rw [← List.take_append_drop 24 words1, List.all_append, w_t1, ← List.take_append_drop 24 (words1.drop 24), List.all_append, w_t2, w_t3]
  rfl
set_option maxRecDepth 65536 in
theorem w_rest : rest_1_c.before args0 about1 = true := by decide +kernel
set_option maxRecDepth 65536 in
theorem w_case : (Jvm.Cond.and given_1 narrow_1).before args0 about1 = true := by decide +kernel
theorem w_applies : (headSpec (Jvm.Cond.code x code maxLocals ret :: tables_1) room_1).applies x e0.platform about1 = true :=
  (Spec.applies_iff w_frames).mpr ⟨w_running, w_runnable, w_alone, w_named, w_hears, w_ripe, w_room, w_tables⟩
theorem atStart : AtStart classFile x code maxLocals ret World_1 tables_1 room_1 Calls_1 rest_1 Pre_1 launch0 p0 e0 about1 theMethod args0 below0 :=
  ⟨lists_1, trivial, launch0.admits_env _ _ _, launch0.least_env, fairChoices_fair.cas, fairChoices_fair.clock, w_frames, w_args, w_heap, w_applies, trivial, w_rest, w_case⟩
end start1
theorem witness_1 : WitnessClaimed_1 := ⟨start1.p0, start1.e0, start1.about1, start1.theMethod, start1.args0, start1.below0, start1.atStart⟩
end Jvm.Pilot.@@N@@
