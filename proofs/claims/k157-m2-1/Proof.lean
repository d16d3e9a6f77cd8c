import JvmDerived
import JvmDerived.Pilot.@@N@@Statement
import JvmDerived.Pilot.@@N@@Code
set_option linter.unusedVariables false
set_option linter.unusedSimpArgs false
namespace Jvm.RoadKit
open Sem ClassFile Op Lib Jvm.Stand Jvm.Free Jvm.LawKit
section New
variable {p : Program} {l : Launch} {e : Env} {R : Room} {s : State} {m : MethodId} {args : Array Value} {below : List Frame} {meth : Method} {c : Code} {T : State} {locs : List Loc} {cells slots : Nat}
theorem retI (X : Stand p l e R s m args below meth c T locs cells slots) (hx : p.tables.exec = Jvm.exec) {pc : Nat} {Ls : Array Slot} {z : Int32} {rest : List Value} (hret : meth.sig.returnType = some .int) (hd : decode c.code pc = .ok (.ireturn, 1)) {fs : List Frame}
    (hl : ∀ (f : JFrame) (acts : List Action), f.method = m → f.locked = none → f.entered = [] → (doReturn e (T.setTop f) acts (some (.int z))).1 = T.setFrames fs) : Steps p.tables e below (T.setTop (mkF m pc Ls (.int z :: rest))) (T.setFrames fs) := by
  have hm' : T.vm.method? m = some meth := X.method'
  have hn : narrow .int (.int z) = .int z := rfl
  show Steps p.tables e below (T.setTop { method := m, pc := pc, locals := Ls, stack := _ :: rest, locked := none }) _
  jvm_step X.here [X.here.top, hx, hd, hm', hret, hn]
  first | (intro acts; rw [hl _ acts rfl rfl rfl]) | rw [hl _ _ rfl rfl rfl]
  exact Steps.refl _
end New
end Jvm.RoadKit
namespace Jvm.Pilot.@@N@@
open Jvm Jvm.ClassFile Sem Op Lib Jvm.Free Jvm.Stand Jvm.LawKit Jvm.RoadKit Bundle Jvm.Pilot.@@N@@.Jvm.D
theorem d1_0 : decode prog_4_method_1_code 0 = .ok (.aload_n 0, 1) := by decide +kernel
theorem d1_1 : decode prog_4_method_1_code 1 = .ok (.invokespecial 1, 3) := by decide +kernel
theorem d1_4 : decode prog_4_method_1_code 4 = .ok (.aload_n 0, 1) := by decide +kernel
theorem d1_5 : decode prog_4_method_1_code 5 = .ok (.aload_n 1, 1) := by decide +kernel
theorem d1_6 : decode prog_4_method_1_code 6 = .ok (.putfield 7, 3) := by decide +kernel
theorem d1_9 : decode prog_4_method_1_code 9 = .ok (.aload_n 0, 1) := by decide +kernel
theorem d1_10 : decode prog_4_method_1_code 10 = .ok (.iload_n 2, 1) := by decide +kernel
theorem d1_11 : decode prog_4_method_1_code 11 = .ok (.putfield 13, 3) := by decide +kernel
theorem d1_14 : decode prog_4_method_1_code 14 = .ok (.aload_n 0, 1) := by decide +kernel
theorem d1_15 : decode prog_4_method_1_code 15 = .ok (.aload_n 3, 1) := by decide +kernel
theorem d1_16 : decode prog_4_method_1_code 16 = .ok (.putfield 17, 3) := by decide +kernel
theorem d1_19 : decode prog_4_method_1_code 19 = .ok (.return_, 1) := by decide +kernel
theorem d3_0 : decode prog_4_method_6_code 0 = .ok (.iload_n 1, 1) := by decide +kernel
theorem d3_1 : decode prog_4_method_6_code 1 = .ok (.aload_n 0, 1) := by decide +kernel
theorem d3_2 : decode prog_4_method_6_code 2 = .ok (.getfield 13, 3) := by decide +kernel
theorem d3_5 : decode prog_4_method_6_code 5 = .ok (.if_icmp .lt 7, 3) := by decide +kernel
theorem d3_8 : decode prog_4_method_6_code 8 = .ok (.iconst 1, 1) := by decide +kernel
theorem d3_9 : decode prog_4_method_6_code 9 = .ok (.goto 4, 3) := by decide +kernel
theorem d3_12 : decode prog_4_method_6_code 12 = .ok (.iconst 0, 1) := by decide +kernel
theorem d3_13 : decode prog_4_method_6_code 13 = .ok (.ireturn, 1) := by decide +kernel
theorem d4_0 : decode jdk_29_method_69_code 0 = .ok (.iload_n 0, 1) := by decide +kernel
theorem d4_1 : decode jdk_29_method_69_code 1 = .ok (.iload_n 1, 1) := by decide +kernel
theorem d4_2 : decode jdk_29_method_69_code 2 = .ok (.if_icmp .gt 7, 3) := by decide +kernel
theorem d4_5 : decode jdk_29_method_69_code 5 = .ok (.iload_n 0, 1) := by decide +kernel
theorem d4_6 : decode jdk_29_method_69_code 6 = .ok (.goto 4, 3) := by decide +kernel
theorem d4_9 : decode jdk_29_method_69_code 9 = .ok (.iload_n 1, 1) := by decide +kernel
theorem d4_10 : decode jdk_29_method_69_code 10 = .ok (.ireturn, 1) := by decide +kernel
theorem d5_0 : decode jdk_29_method_65_code 0 = .ok (.iload_n 0, 1) := by decide +kernel
theorem d5_1 : decode jdk_29_method_65_code 1 = .ok (.iload_n 1, 1) := by decide +kernel
theorem d5_2 : decode jdk_29_method_65_code 2 = .ok (.if_icmp .lt 7, 3) := by decide +kernel
theorem d5_5 : decode jdk_29_method_65_code 5 = .ok (.iload_n 0, 1) := by decide +kernel
theorem d5_6 : decode jdk_29_method_65_code 6 = .ok (.goto 4, 3) := by decide +kernel
theorem d5_9 : decode jdk_29_method_65_code 9 = .ok (.iload_n 1, 1) := by decide +kernel
theorem d5_10 : decode jdk_29_method_65_code 10 = .ok (.ireturn, 1) := by decide +kernel
theorem pn_0 : plainName "com/example/arpol/arpol/DutySet" = true := by first | (simp [plainName, overriddenIn]; done) | decide +kernel
theorem pn_1 : plainName "com/example/arpol/arpol/DutySetBrokenByCountPinLaw" = true := by first | (simp [plainName, overriddenIn]; done) | decide +kernel
theorem pd_0 : parseMethodDescriptor "(Ljava/lang/String;ILjava/util/Set;)V" = some ⟨[(.object "java/lang/String"), .int, (.object "java/util/Set")], none⟩ := by decide +kernel
theorem pd_1 : parseMethodDescriptor "(I)Z" = some ⟨[.int], some .boolean⟩ := by decide +kernel
theorem pd_2 : parseMethodDescriptor "(II)I" = some ⟨[.int, .int], some .int⟩ := by decide +kernel
theorem own_str_in : ∀ w ∈ Bundle.stringAtoms, w ∈ tables_1 := by decide +kernel
theorem own_nar1 {x : Int32} (h : x = 1) : nar .boolean x = 1 := by subst h; rfl
theorem own_n0 : nar .boolean (0 : Int32) = 0 := rfl
theorem own_n1 : nar .boolean (1 : Int32) = 1 := rfl
def Q1 (Z : State) (r0 : Addr) (r1 : Addr) (i2 : Int32) (u_name_r0 : Value) (u_cardinality_r0 : Value) (u_roles_r0 : Value) (h0 : Heap) (n0 : Nat) (v : Option Value) (h : Heap) (L : List Loc) : Prop := v = none ∧ Fr n0 L ∧ Keep h0 h [r0] ∧ Exa Z h r0 "com/example/arpol/arpol/DutySet" ∧ Fld Z h r0 "com/example/arpol/arpol/DutySet" "name" "Ljava/lang/String;" (.ref r1) ∧ Fld Z h r0 "com/example/arpol/arpol/DutySet" "cardinality" "I" (.int i2) ∧ Fld Z h r0 "com/example/arpol/arpol/DutySet" "roles" "Ljava/util/Set;" .null
theorem ef_1 (m : MethodId) (x0 : Addr) (x1 : Addr) (x2 : Int32) : entryFrame m #[(.ref x0), (.ref x1), (.int x2), .null] 4 = mkF m 0 #[.val (.ref x0), .val (.ref x1), .val (.int x2), .val .null] [] := by first | (simp [entryFrame, mkF, argsToLocals, Value.category]; done) | rfl
set_option maxRecDepth 65536 in
set_option maxHeartbeats 40000000 in
theorem rm1 (l : Launch) (Z : State) (a0 : Array Value) (hw : ∀ d ∈ tables_1, d.before a0 Z = true) (ws : List Jvm.Cond) (r0 : Addr) (r1 : Addr) (i2 : Int32) (u_name_r0 : Value) (u_cardinality_r0 : Value) (u_roles_r0 : Value) (h0 : Heap) (n0 : Nat) (Z0 : n0 ≤ h0.size) (E_r0 : Exa Z h0 r0 "com/example/arpol/arpol/DutySet") (F_name_r0 : Fld Z h0 r0 "com/example/arpol/arpol/DutySet" "name" "Ljava/lang/String;" u_name_r0) (g_r0 : n0 ≤ r0) (F_cardinality_r0 : Fld Z h0 r0 "com/example/arpol/arpol/DutySet" "cardinality" "I" u_cardinality_r0) (F_roles_r0 : Fld Z h0 r0 "com/example/arpol/arpol/DutySet" "roles" "Ljava/util/Set;" u_roles_r0) :
    MetFree l (⟨"com/example/arpol/arpol/DutySet", "<init>", "(Ljava/lang/String;ILjava/util/Set;)V"⟩ : MethodName) (head1 (Jvm.Cond.code (⟨"com/example/arpol/arpol/DutySet", "<init>", "(Ljava/lang/String;ILjava/util/Set;)V"⟩ : MethodName) prog_4_method_1_code 4 none :: ws) ({ frames := 1, cells := 0, slots := 0, locals := 12 } : Room)) (fun a U => a = #[(.ref r0), (.ref r1), (.int i2), .null] ∧ Z.Warmed39 U.vm ∧ U.heap = h0) (fun _ _ _ _ _ => True) (fun _ U o U' => ∃ v L, o = .returned v ∧ Q1 Z r0 r1 i2 u_name_r0 u_cardinality_r0 u_roles_r0 h0 n0 v U'.heap L ∧ FrameEnd U o U' L ({ frames := 1, cells := 0, slots := 0, locals := 12 } : Room).cells ({ frames := 1, cells := 0, slots := 0, locals := 12 } : Room).slots) := by
  refine MetFree.of_bodySF (plainFor_of_name pn_0) hisR ?_
  intro p e s m args below meth c s₁ Bd hml0 hP hK
  obtain ⟨rfl, hZ, hh⟩ := hP
  have hx := Bd.exec
  have hby := Bd.bytes
  have hml : c.maxLocals = 4 := hml0
  have hown : s.vm.findClass "com/example/arpol/arpol/DutySet" = some m.cls := findClass_of_methodNamed Bd.named
  have hnm := (name_of_methodNamed Bd.named Bd.method).1
  have X0 : Stand p l e ({ frames := 1, cells := 0, slots := 0, locals := 12 } : Room) s m #[(.ref r0), (.ref r1), (.int i2), .null] below meth c s₁ [] 0 0 := Stand.of_body Bd
  have e0 : s₁.heap = h0 := by rw [← hh, Bd.state]; rfl
  have N0 := Fr.nil n0
  have pre0 : ∀ t, Steps p.tables e below (s₁.setTop (mkF m 0 #[.val (.ref r0), .val (.ref r1), .val (.int i2), .val .null] [])) t → Steps p.tables e below (s₁.setTop (entryFrame m #[(.ref r0), (.ref r1), (.int i2), .null] 4)) t := fun t k => castTop (ef_1 m r0 r1 i2) k
  obtain ⟨T1, X1, e1, st1⟩ := initO X0 hx hZ hown (hw _ (List.mem_of_getElem? (i := 14) rfl)) (hw _ (List.mem_of_getElem? (i := 15) rfl)) (hw _ (List.mem_of_getElem? (i := 16) rfl)) e0 (g := (mkF m 1 #[.val (.ref r0), .val (.ref r1), .val (.int i2), .val .null] [(.ref r0)])) rfl (by rw [hml]; rfl) rfl (hb hby d1_1) (by decide) (W := 0) (by show 2 * 0 + _ ≤ _; exact Nat.le_of_eq rfl) (by decide)
  obtain ⟨T2, h2, X2, e2, W2, st2⟩ := putF X1 hx hZ hown (host := "") (Or.inl (hw _ (List.mem_of_getElem? (i := 17) rfl))) Via.refl e1 F_name_r0 E_r0 (Or.inr ⟨(hw _ (List.mem_of_getElem? (i := 18) rfl)), rfl, hnm⟩) (hw _ (List.mem_of_getElem? (i := 1) rfl)) (ty := (.object "java/lang/String")) (by decide) rfl rfl (g := (mkF m 6 #[.val (.ref r0), .val (.ref r1), .val (.int i2), .val .null] [(.ref r1), (.ref r0)])) rfl rfl (hb hby d1_6)
  have N2 := Fr.snoc X2 N0 g_r0
  have K3 : Keep h0 h2 [r0] := (Keep.refl h0 [r0]).wr W2 (Or.inl (List.mem_of_getElem? (i := 0) rfl))
  have F2 := F_name_r0.same W2
  have f4 := (E_r0.wr W2)
  have f5 := (F_cardinality_r0.other W2 (Or.inr (slot_ne (Or.inr (hw _ (List.mem_of_getElem? (i := 20) rfl))) (Or.inr (hw _ (List.mem_of_getElem? (i := 18) rfl))) (by decide) (t := .int) (t' := (.object "java/lang/String")) (by decide) (by decide))))
  obtain ⟨T6, h6, X6, e6, W6, st6⟩ := putF X2 hx hZ hown (host := "") (Or.inl (hw _ (List.mem_of_getElem? (i := 19) rfl))) Via.refl e2 f5 f4 (Or.inr ⟨(hw _ (List.mem_of_getElem? (i := 20) rfl)), rfl, hnm⟩) (hw _ (List.mem_of_getElem? (i := 1) rfl)) (ty := .int) (by decide) rfl rfl (g := (mkF m 11 #[.val (.ref r0), .val (.ref r1), .val (.int i2), .val .null] [(.int i2), (.ref r0)])) rfl rfl (hb hby d1_11)
  have N6 := Fr.snoc X6 N2 g_r0
  have K7 : Keep h0 h6 [r0] := K3.wr W6 (Or.inl (List.mem_of_getElem? (i := 0) rfl))
  have F6 := f5.same W6
  have f8 := (f4.wr W6)
  have f9 := ((F_roles_r0.other W2 (Or.inr (slot_ne (Or.inr (hw _ (List.mem_of_getElem? (i := 22) rfl))) (Or.inr (hw _ (List.mem_of_getElem? (i := 18) rfl))) (by decide) (t := (.object "java/util/Set")) (t' := (.object "java/lang/String")) (by decide) (by decide)))).other W6 (Or.inr (slot_ne (Or.inr (hw _ (List.mem_of_getElem? (i := 22) rfl))) (Or.inr (hw _ (List.mem_of_getElem? (i := 20) rfl))) (by decide) (t := (.object "java/util/Set")) (t' := .int) (by decide) (by decide))))
  obtain ⟨T10, h10, X10, e10, W10, st10⟩ := putF X6 hx hZ hown (host := "") (Or.inl (hw _ (List.mem_of_getElem? (i := 21) rfl))) Via.refl e6 f9 f8 (Or.inr ⟨(hw _ (List.mem_of_getElem? (i := 22) rfl)), rfl, hnm⟩) (hw _ (List.mem_of_getElem? (i := 1) rfl)) (ty := (.object "java/util/Set")) (by decide) rfl rfl (g := (mkF m 16 #[.val (.ref r0), .val (.ref r1), .val (.int i2), .val .null] [.null, (.ref r0)])) rfl rfl (hb hby d1_16)
  have N10 := Fr.snoc X10 N6 g_r0
  have K11 : Keep h0 h10 [r0] := K7.wr W10 (Or.inl (List.mem_of_getElem? (i := 0) rfl))
  have F10 := f9.same W10
  have pre12 : ∀ t, Steps p.tables e below (T10.setTop (mkF m 19 #[.val (.ref r0), .val (.ref r1), .val (.int i2), .val .null] [])) t → Steps p.tables e below (s₁.setTop (entryFrame m #[(.ref r0), (.ref r1), (.int i2), .null] 4)) t := by
    intro t k
    refine pre0 _ ?_
    show Steps p.tables e below (s₁.setTop (mkF m 0 #[.val (.ref r0), .val (.ref r1), .val (.int i2), .val .null] [])) _
    refine XS.aloadN X0.here hx rfl (hb hby d1_0) rfl rfl ?_
    show Steps p.tables e below (s₁.setTop (mkF m 1 #[.val (.ref r0), .val (.ref r1), .val (.int i2), .val .null] [(.ref r0)])) _
    refine st1 _ ?_
    show Steps p.tables e below (T1.setTop (mkF m 4 #[.val (.ref r0), .val (.ref r1), .val (.int i2), .val .null] [])) _
    refine XS.aloadN X1.here hx rfl (hb hby d1_4) rfl rfl ?_
    show Steps p.tables e below (T1.setTop (mkF m 5 #[.val (.ref r0), .val (.ref r1), .val (.int i2), .val .null] [(.ref r0)])) _
    refine XS.aloadN X1.here hx rfl (hb hby d1_5) rfl rfl ?_
    show Steps p.tables e below (T1.setTop (mkF m 6 #[.val (.ref r0), .val (.ref r1), .val (.int i2), .val .null] [(.ref r1), (.ref r0)])) _
    refine st2 _ ?_
    show Steps p.tables e below (T2.setTop (mkF m 9 #[.val (.ref r0), .val (.ref r1), .val (.int i2), .val .null] [])) _
    refine XS.aloadN X2.here hx rfl (hb hby d1_9) rfl rfl ?_
    show Steps p.tables e below (T2.setTop (mkF m 10 #[.val (.ref r0), .val (.ref r1), .val (.int i2), .val .null] [(.ref r0)])) _
    refine XS.iloadN X2.here hx rfl (hb hby d1_10) rfl ?_
    show Steps p.tables e below (T2.setTop (mkF m 11 #[.val (.ref r0), .val (.ref r1), .val (.int i2), .val .null] [(.int i2), (.ref r0)])) _
    refine st6 _ ?_
    show Steps p.tables e below (T6.setTop (mkF m 14 #[.val (.ref r0), .val (.ref r1), .val (.int i2), .val .null] [])) _
    refine XS.aloadN X6.here hx rfl (hb hby d1_14) rfl rfl ?_
    show Steps p.tables e below (T6.setTop (mkF m 15 #[.val (.ref r0), .val (.ref r1), .val (.int i2), .val .null] [(.ref r0)])) _
    refine XS.aloadN X6.here hx rfl (hb hby d1_15) rfl rfl ?_
    show Steps p.tables e below (T6.setTop (mkF m 16 #[.val (.ref r0), .val (.ref r1), .val (.int i2), .val .null] [.null, (.ref r0)])) _
    refine st10 _ ?_
    exact k
  have f13 := (f8.wr W10)
  have f14 := ((F2.other W6 (Or.inr (slot_ne (Or.inr (hw _ (List.mem_of_getElem? (i := 18) rfl))) (Or.inr (hw _ (List.mem_of_getElem? (i := 20) rfl))) (by decide) (t := (.object "java/lang/String")) (t' := .int) (by decide) (by decide)))).other W10 (Or.inr (slot_ne (Or.inr (hw _ (List.mem_of_getElem? (i := 18) rfl))) (Or.inr (hw _ (List.mem_of_getElem? (i := 22) rfl))) (by decide) (t := (.object "java/lang/String")) (t' := (.object "java/util/Set")) (by decide) (by decide))))
  have f15 := (F6.other W10 (Or.inr (slot_ne (Or.inr (hw _ (List.mem_of_getElem? (i := 20) rfl))) (Or.inr (hw _ (List.mem_of_getElem? (i := 22) rfl))) (by decide) (t := .int) (t' := (.object "java/util/Set")) (by decide) (by decide))))
  obtain ⟨fs, hr, hrun, hended, hW, hsame⟩ := X10.leave (v := none) (fun _ => rfl)
  refine ⟨_, _, pre12 _ ?_, hrun, hended, _, _, rfl, ?_, ⟨_, rfl⟩, hW, hsame.mono (by decide) (by decide)⟩
  · show Steps p.tables e below (T10.setTop (mkF m 19 #[.val (.ref r0), .val (.ref r1), .val (.int i2), .val .null] [])) _
    exact X10.returnOut hx Bd.returns (hb hby d1_19) hr
  · show Q1 Z r0 r1 i2 u_name_r0 u_cardinality_r0 u_roles_r0 h0 n0 _ T10.heap _
    rw [e10]
    exact ⟨rfl, N10, K11, f13, f14, f15, F10⟩
def own_j3_5_0 (i1 : Int32) (w_cardinality_r0 : Int32) : Int32 := (if i1 < w_cardinality_r0 then (0 : Int32) else (1 : Int32))
def Q3 (Z : State) (r0 : Addr) (i1 : Int32) (w_cardinality_r0 : Int32) (h0 : Heap) (n0 : Nat) (v : Option Value) (h : Heap) (L : List Loc) : Prop := v = some (.int (nar .boolean (own_j3_5_0 i1 w_cardinality_r0))) ∧ Fr n0 L ∧ h = h0
theorem ef_3 (m : MethodId) (x0 : Addr) (x1 : Int32) : entryFrame m #[(.ref x0), (.int x1)] 2 = mkF m 0 #[.val (.ref x0), .val (.int x1)] [] := by first | (simp [entryFrame, mkF, argsToLocals, Value.category]; done) | rfl
set_option maxRecDepth 65536 in
set_option maxHeartbeats 40000000 in
theorem rm3 (l : Launch) (Z : State) (a0 : Array Value) (hw : ∀ d ∈ tables_1, d.before a0 Z = true) (ws : List Jvm.Cond) (r0 : Addr) (i1 : Int32) (w_cardinality_r0 : Int32) (h0 : Heap) (n0 : Nat) (Z0 : n0 ≤ h0.size) (F_cardinality_r0 : Fld Z h0 r0 "com/example/arpol/arpol/DutySet" "cardinality" "I" (.int w_cardinality_r0)) :
    MetFree l (⟨"com/example/arpol/arpol/DutySet", "brokenByCount", "(I)Z"⟩ : MethodName) (head1 (Jvm.Cond.code (⟨"com/example/arpol/arpol/DutySet", "brokenByCount", "(I)Z"⟩ : MethodName) prog_4_method_6_code 2 (some .boolean) :: ws) ({ frames := 0, cells := 0, slots := 0, locals := 0 } : Room)) (fun a U => a = #[(.ref r0), (.int i1)] ∧ Z.Warmed39 U.vm ∧ U.heap = h0) (fun _ _ _ _ _ => True) (fun _ U o U' => ∃ v L, o = .returned v ∧ Q3 Z r0 i1 w_cardinality_r0 h0 n0 v U'.heap L ∧ FrameEnd U o U' L ({ frames := 0, cells := 0, slots := 0, locals := 0 } : Room).cells ({ frames := 0, cells := 0, slots := 0, locals := 0 } : Room).slots) := by
  refine MetFree.of_bodySF (plainFor_of_name pn_0) hisR ?_
  intro p e s m args below meth c s₁ Bd hml0 hP hK
  obtain ⟨rfl, hZ, hh⟩ := hP
  have hx := Bd.exec
  have hby := Bd.bytes
  have hml : c.maxLocals = 2 := hml0
  have hown : s.vm.findClass "com/example/arpol/arpol/DutySet" = some m.cls := findClass_of_methodNamed Bd.named
  have hnm := (name_of_methodNamed Bd.named Bd.method).1
  have X0 : Stand p l e ({ frames := 0, cells := 0, slots := 0, locals := 0 } : Room) s m #[(.ref r0), (.int i1)] below meth c s₁ [] 0 0 := Stand.of_body Bd
  have e0 : s₁.heap = h0 := by rw [← hh, Bd.state]; rfl
  have N0 := Fr.nil n0
  have pre0 : ∀ t, Steps p.tables e below (s₁.setTop (mkF m 0 #[.val (.ref r0), .val (.int i1)] [])) t → Steps p.tables e below (s₁.setTop (entryFrame m #[(.ref r0), (.int i1)] 2)) t := fun t k => castTop (ef_3 m r0 i1) k
  obtain ⟨T1, X1, e1, st1⟩ := getF X0 hx hZ hown (host := "") (Or.inl (hw _ (List.mem_of_getElem? (i := 19) rfl))) Via.refl e0 F_cardinality_r0 (g := (mkF m 2 #[.val (.ref r0), .val (.int i1)] [(.ref r0), (.int i1)])) rfl rfl (hb hby d3_2)
  have pre2 : ∀ t, Steps p.tables e below (T1.setTop (mkF m 5 #[.val (.ref r0), .val (.int i1)] [(.int w_cardinality_r0), (.int i1)])) t → Steps p.tables e below (s₁.setTop (entryFrame m #[(.ref r0), (.int i1)] 2)) t := by
    intro t k
    refine pre0 _ ?_
    show Steps p.tables e below (s₁.setTop (mkF m 0 #[.val (.ref r0), .val (.int i1)] [])) _
    refine XS.iloadN X0.here hx rfl (hb hby d3_0) rfl ?_
    show Steps p.tables e below (s₁.setTop (mkF m 1 #[.val (.ref r0), .val (.int i1)] [(.int i1)])) _
    refine XS.aloadN X0.here hx rfl (hb hby d3_1) rfl rfl ?_
    show Steps p.tables e below (s₁.setTop (mkF m 2 #[.val (.ref r0), .val (.int i1)] [(.ref r0), (.int i1)])) _
    refine st1 _ ?_
    exact k
  have pre6 : ∀ t, Steps p.tables e below (T1.setTop (mkF m 13 #[.val (.ref r0), .val (.int i1)] [(.int (own_j3_5_0 i1 w_cardinality_r0))])) t → Steps p.tables e below (s₁.setTop (entryFrame m #[(.ref r0), (.int i1)] 2)) t := by
    by_cases hc5_3 : i1 < w_cardinality_r0
    · have pre4 : ∀ t, Steps p.tables e below (T1.setTop (mkF m 13 #[.val (.ref r0), .val (.int i1)] [(.int (0 : Int32))])) t → Steps p.tables e below (s₁.setTop (entryFrame m #[(.ref r0), (.int i1)] 2)) t := by
        intro t k
        refine pre2 _ ?_
        show Steps p.tables e below (T1.setTop (mkF m 5 #[.val (.ref r0), .val (.int i1)] [(.int w_cardinality_r0), (.int i1)])) _
        refine XS.icmpYes X1.here hx rfl (pc0 := 5) (pc' := 12) rfl (hb hby d3_5) rfl (tlt hc5_3).1 (by decide) (by decide) ?_
        show Steps p.tables e below (T1.setTop (mkF m 12 #[.val (.ref r0), .val (.int i1)] [])) _
        refine XS.iconst X1.here hx rfl (hb hby d3_12) ?_
        exact k
      exact fun t k => pre4 t (by rw [show (own_j3_5_0 i1 w_cardinality_r0) = (0 : Int32) from (if_pos hc5_3)] at k; exact k)
    · have pre5 : ∀ t, Steps p.tables e below (T1.setTop (mkF m 13 #[.val (.ref r0), .val (.int i1)] [(.int (1 : Int32))])) t → Steps p.tables e below (s₁.setTop (entryFrame m #[(.ref r0), (.int i1)] 2)) t := by
        intro t k
        refine pre2 _ ?_
        show Steps p.tables e below (T1.setTop (mkF m 5 #[.val (.ref r0), .val (.int i1)] [(.int w_cardinality_r0), (.int i1)])) _
        refine XS.icmpNo X1.here hx rfl (hb hby d3_5) rfl (flt hc5_3).1 ?_
        show Steps p.tables e below (T1.setTop (mkF m 8 #[.val (.ref r0), .val (.int i1)] [])) _
        refine XS.iconst X1.here hx rfl (hb hby d3_8) ?_
        show Steps p.tables e below (T1.setTop (mkF m 9 #[.val (.ref r0), .val (.int i1)] [(.int (1 : Int32))])) _
        refine XS.goto X1.here hx rfl (pc0 := 9) (pc' := 13) rfl (hb hby d3_9) (by decide) (by decide) ?_
        exact k
      exact fun t k => pre5 t (by rw [show (own_j3_5_0 i1 w_cardinality_r0) = (1 : Int32) from (if_neg hc5_3)] at k; exact k)
  obtain ⟨fs, hr, hrun, hended, hW, hsame⟩ := X1.leave (v := some (.int (nar .boolean (own_j3_5_0 i1 w_cardinality_r0)))) (fun h => by rw [Bd.returns] at h; cases h)
  refine ⟨_, _, pre6 _ ?_, hrun, hended, _, _, rfl, ?_, ⟨_, rfl⟩, hW, hsame.mono (by decide) (by decide)⟩
  · show Steps p.tables e below (T1.setTop (mkF m 13 #[.val (.ref r0), .val (.int i1)] [(.int (own_j3_5_0 i1 w_cardinality_r0))])) _
    exact retN X1 hx (t := .boolean) Bd.returns (by simp) (hb hby d3_13) hr
  · show Q3 Z r0 i1 w_cardinality_r0 h0 n0 _ T1.heap _
    rw [e1]
    exact ⟨rfl, N0, rfl⟩
def own_j4_2_0 (i1 : Int32) (i2 : Int32) : Int32 := (if i2 < i1 then i2 else i1)
def Q4 (Z : State) (i1 : Int32) (i2 : Int32) (h0 : Heap) (n0 : Nat) (v : Option Value) (h : Heap) (L : List Loc) : Prop := v = some (.int (own_j4_2_0 i1 i2)) ∧ Fr n0 L ∧ h = h0
theorem ef_4 (m : MethodId) (x0 : Int32) (x1 : Int32) : entryFrame m #[(.int x0), (.int x1)] 2 = mkF m 0 #[.val (.int x0), .val (.int x1)] [] := by first | (simp [entryFrame, mkF, argsToLocals, Value.category]; done) | rfl
set_option maxRecDepth 65536 in
set_option maxHeartbeats 40000000 in
theorem rm4 (l : Launch) (Z : State) (a0 : Array Value) (hw : ∀ d ∈ tables_1, d.before a0 Z = true) (ws : List Jvm.Cond) (i1 : Int32) (i2 : Int32) (h0 : Heap) (n0 : Nat) (Z0 : n0 ≤ h0.size) :
    MetFree l (⟨"java/lang/Math", "min", "(II)I"⟩ : MethodName) (head1 (Jvm.Cond.code (⟨"java/lang/Math", "min", "(II)I"⟩ : MethodName) jdk_29_method_69_code 2 (some .int) :: ws) ({ frames := 0, cells := 0, slots := 0, locals := 0 } : Room)) (fun a U => a = #[(.int i1), (.int i2)] ∧ Z.Warmed39 U.vm ∧ U.heap = h0) (fun _ _ _ _ _ => True) (fun _ U o U' => ∃ v L, o = .returned v ∧ Q4 Z i1 i2 h0 n0 v U'.heap L ∧ FrameEnd U o U' L ({ frames := 0, cells := 0, slots := 0, locals := 0 } : Room).cells ({ frames := 0, cells := 0, slots := 0, locals := 0 } : Room).slots) := by
  refine MetFree.of_bodySF (Jvm.Free.JP.mathPlain rfl (by decide +kernel)) hisR ?_
  intro p e s m args below meth c s₁ Bd hml0 hP hK
  obtain ⟨rfl, hZ, hh⟩ := hP
  have hx := Bd.exec
  have hby := Bd.bytes
  have hml : c.maxLocals = 2 := hml0
  have hown : s.vm.findClass "java/lang/Math" = some m.cls := findClass_of_methodNamed Bd.named
  have hnm := (name_of_methodNamed Bd.named Bd.method).1
  have X0 : Stand p l e ({ frames := 0, cells := 0, slots := 0, locals := 0 } : Room) s m #[(.int i1), (.int i2)] below meth c s₁ [] 0 0 := Stand.of_body Bd
  have e0 : s₁.heap = h0 := by rw [← hh, Bd.state]; rfl
  have N0 := Fr.nil n0
  have pre0 : ∀ t, Steps p.tables e below (s₁.setTop (mkF m 0 #[.val (.int i1), .val (.int i2)] [])) t → Steps p.tables e below (s₁.setTop (entryFrame m #[(.int i1), (.int i2)] 2)) t := fun t k => castTop (ef_4 m i1 i2) k
  have pre1 : ∀ t, Steps p.tables e below (s₁.setTop (mkF m 2 #[.val (.int i1), .val (.int i2)] [(.int i2), (.int i1)])) t → Steps p.tables e below (s₁.setTop (entryFrame m #[(.int i1), (.int i2)] 2)) t := by
    intro t k
    refine pre0 _ ?_
    show Steps p.tables e below (s₁.setTop (mkF m 0 #[.val (.int i1), .val (.int i2)] [])) _
    refine XS.iloadN X0.here hx rfl (hb hby d4_0) rfl ?_
    show Steps p.tables e below (s₁.setTop (mkF m 1 #[.val (.int i1), .val (.int i2)] [(.int i1)])) _
    refine XS.iloadN X0.here hx rfl (hb hby d4_1) rfl ?_
    exact k
  have pre5 : ∀ t, Steps p.tables e below (s₁.setTop (mkF m 10 #[.val (.int i1), .val (.int i2)] [(.int (own_j4_2_0 i1 i2))])) t → Steps p.tables e below (s₁.setTop (entryFrame m #[(.int i1), (.int i2)] 2)) t := by
    by_cases hc2_2 : i2 < i1
    · have pre3 : ∀ t, Steps p.tables e below (s₁.setTop (mkF m 10 #[.val (.int i1), .val (.int i2)] [(.int i2)])) t → Steps p.tables e below (s₁.setTop (entryFrame m #[(.int i1), (.int i2)] 2)) t := by
        intro t k
        refine pre1 _ ?_
        show Steps p.tables e below (s₁.setTop (mkF m 2 #[.val (.int i1), .val (.int i2)] [(.int i2), (.int i1)])) _
        refine XS.icmpYes X0.here hx rfl (pc0 := 2) (pc' := 9) rfl (hb hby d4_2) rfl (tlt hc2_2).2.2.1 (by decide) (by decide) ?_
        show Steps p.tables e below (s₁.setTop (mkF m 9 #[.val (.int i1), .val (.int i2)] [])) _
        refine XS.iloadN X0.here hx rfl (hb hby d4_9) rfl ?_
        exact k
      exact fun t k => pre3 t (by rw [show (own_j4_2_0 i1 i2) = i2 from (if_pos hc2_2)] at k; exact k)
    · have pre4 : ∀ t, Steps p.tables e below (s₁.setTop (mkF m 10 #[.val (.int i1), .val (.int i2)] [(.int i1)])) t → Steps p.tables e below (s₁.setTop (entryFrame m #[(.int i1), (.int i2)] 2)) t := by
        intro t k
        refine pre1 _ ?_
        show Steps p.tables e below (s₁.setTop (mkF m 2 #[.val (.int i1), .val (.int i2)] [(.int i2), (.int i1)])) _
        refine XS.icmpNo X0.here hx rfl (hb hby d4_2) rfl (flt hc2_2).2.2.1 ?_
        show Steps p.tables e below (s₁.setTop (mkF m 5 #[.val (.int i1), .val (.int i2)] [])) _
        refine XS.iloadN X0.here hx rfl (hb hby d4_5) rfl ?_
        show Steps p.tables e below (s₁.setTop (mkF m 6 #[.val (.int i1), .val (.int i2)] [(.int i1)])) _
        refine XS.goto X0.here hx rfl (pc0 := 6) (pc' := 10) rfl (hb hby d4_6) (by decide) (by decide) ?_
        exact k
      exact fun t k => pre4 t (by rw [show (own_j4_2_0 i1 i2) = i1 from (if_neg hc2_2)] at k; exact k)
  obtain ⟨fs, hr, hrun, hended, hW, hsame⟩ := X0.leave (v := some (.int (own_j4_2_0 i1 i2))) (fun h => by rw [Bd.returns] at h; cases h)
  refine ⟨_, _, pre5 _ ?_, hrun, hended, _, _, rfl, ?_, ⟨_, rfl⟩, hW, hsame.mono (by decide) (by decide)⟩
  · show Steps p.tables e below (s₁.setTop (mkF m 10 #[.val (.int i1), .val (.int i2)] [(.int (own_j4_2_0 i1 i2))])) _
    exact retI X0 hx Bd.returns (hb hby d4_10) hr
  · show Q4 Z i1 i2 h0 n0 _ s₁.heap _
    rw [e0]
    exact ⟨rfl, N0, rfl⟩
def own_j5_2_0 (i1 : Int32) (i2 : Int32) : Int32 := (if i1 < i2 then i2 else i1)
def Q5 (Z : State) (i1 : Int32) (i2 : Int32) (h0 : Heap) (n0 : Nat) (v : Option Value) (h : Heap) (L : List Loc) : Prop := v = some (.int (own_j5_2_0 i1 i2)) ∧ Fr n0 L ∧ h = h0
theorem ef_5 (m : MethodId) (x0 : Int32) (x1 : Int32) : entryFrame m #[(.int x0), (.int x1)] 2 = mkF m 0 #[.val (.int x0), .val (.int x1)] [] := by first | (simp [entryFrame, mkF, argsToLocals, Value.category]; done) | rfl
set_option maxRecDepth 65536 in
set_option maxHeartbeats 40000000 in
theorem rm5 (l : Launch) (Z : State) (a0 : Array Value) (hw : ∀ d ∈ tables_1, d.before a0 Z = true) (ws : List Jvm.Cond) (i1 : Int32) (i2 : Int32) (h0 : Heap) (n0 : Nat) (Z0 : n0 ≤ h0.size) :
    MetFree l (⟨"java/lang/Math", "max", "(II)I"⟩ : MethodName) (head1 (Jvm.Cond.code (⟨"java/lang/Math", "max", "(II)I"⟩ : MethodName) jdk_29_method_65_code 2 (some .int) :: ws) ({ frames := 0, cells := 0, slots := 0, locals := 0 } : Room)) (fun a U => a = #[(.int i1), (.int i2)] ∧ Z.Warmed39 U.vm ∧ U.heap = h0) (fun _ _ _ _ _ => True) (fun _ U o U' => ∃ v L, o = .returned v ∧ Q5 Z i1 i2 h0 n0 v U'.heap L ∧ FrameEnd U o U' L ({ frames := 0, cells := 0, slots := 0, locals := 0 } : Room).cells ({ frames := 0, cells := 0, slots := 0, locals := 0 } : Room).slots) := by
  refine MetFree.of_bodySF (Jvm.Free.JP.mathPlain rfl (by decide +kernel)) hisR ?_
  intro p e s m args below meth c s₁ Bd hml0 hP hK
  obtain ⟨rfl, hZ, hh⟩ := hP
  have hx := Bd.exec
  have hby := Bd.bytes
  have hml : c.maxLocals = 2 := hml0
  have hown : s.vm.findClass "java/lang/Math" = some m.cls := findClass_of_methodNamed Bd.named
  have hnm := (name_of_methodNamed Bd.named Bd.method).1
  have X0 : Stand p l e ({ frames := 0, cells := 0, slots := 0, locals := 0 } : Room) s m #[(.int i1), (.int i2)] below meth c s₁ [] 0 0 := Stand.of_body Bd
  have e0 : s₁.heap = h0 := by rw [← hh, Bd.state]; rfl
  have N0 := Fr.nil n0
  have pre0 : ∀ t, Steps p.tables e below (s₁.setTop (mkF m 0 #[.val (.int i1), .val (.int i2)] [])) t → Steps p.tables e below (s₁.setTop (entryFrame m #[(.int i1), (.int i2)] 2)) t := fun t k => castTop (ef_5 m i1 i2) k
  have pre1 : ∀ t, Steps p.tables e below (s₁.setTop (mkF m 2 #[.val (.int i1), .val (.int i2)] [(.int i2), (.int i1)])) t → Steps p.tables e below (s₁.setTop (entryFrame m #[(.int i1), (.int i2)] 2)) t := by
    intro t k
    refine pre0 _ ?_
    show Steps p.tables e below (s₁.setTop (mkF m 0 #[.val (.int i1), .val (.int i2)] [])) _
    refine XS.iloadN X0.here hx rfl (hb hby d5_0) rfl ?_
    show Steps p.tables e below (s₁.setTop (mkF m 1 #[.val (.int i1), .val (.int i2)] [(.int i1)])) _
    refine XS.iloadN X0.here hx rfl (hb hby d5_1) rfl ?_
    exact k
  have pre5 : ∀ t, Steps p.tables e below (s₁.setTop (mkF m 10 #[.val (.int i1), .val (.int i2)] [(.int (own_j5_2_0 i1 i2))])) t → Steps p.tables e below (s₁.setTop (entryFrame m #[(.int i1), (.int i2)] 2)) t := by
    by_cases hc2_2 : i1 < i2
    · have pre3 : ∀ t, Steps p.tables e below (s₁.setTop (mkF m 10 #[.val (.int i1), .val (.int i2)] [(.int i2)])) t → Steps p.tables e below (s₁.setTop (entryFrame m #[(.int i1), (.int i2)] 2)) t := by
        intro t k
        refine pre1 _ ?_
        show Steps p.tables e below (s₁.setTop (mkF m 2 #[.val (.int i1), .val (.int i2)] [(.int i2), (.int i1)])) _
        refine XS.icmpYes X0.here hx rfl (pc0 := 2) (pc' := 9) rfl (hb hby d5_2) rfl (tlt hc2_2).1 (by decide) (by decide) ?_
        show Steps p.tables e below (s₁.setTop (mkF m 9 #[.val (.int i1), .val (.int i2)] [])) _
        refine XS.iloadN X0.here hx rfl (hb hby d5_9) rfl ?_
        exact k
      exact fun t k => pre3 t (by rw [show (own_j5_2_0 i1 i2) = i2 from (if_pos hc2_2)] at k; exact k)
    · have pre4 : ∀ t, Steps p.tables e below (s₁.setTop (mkF m 10 #[.val (.int i1), .val (.int i2)] [(.int i1)])) t → Steps p.tables e below (s₁.setTop (entryFrame m #[(.int i1), (.int i2)] 2)) t := by
        intro t k
        refine pre1 _ ?_
        show Steps p.tables e below (s₁.setTop (mkF m 2 #[.val (.int i1), .val (.int i2)] [(.int i2), (.int i1)])) _
        refine XS.icmpNo X0.here hx rfl (hb hby d5_2) rfl (flt hc2_2).1 ?_
        show Steps p.tables e below (s₁.setTop (mkF m 5 #[.val (.int i1), .val (.int i2)] [])) _
        refine XS.iloadN X0.here hx rfl (hb hby d5_5) rfl ?_
        show Steps p.tables e below (s₁.setTop (mkF m 6 #[.val (.int i1), .val (.int i2)] [(.int i1)])) _
        refine XS.goto X0.here hx rfl (pc0 := 6) (pc' := 10) rfl (hb hby d5_6) (by decide) (by decide) ?_
        exact k
      exact fun t k => pre4 t (by rw [show (own_j5_2_0 i1 i2) = i1 from (if_neg hc2_2)] at k; exact k)
  obtain ⟨fs, hr, hrun, hended, hW, hsame⟩ := X0.leave (v := some (.int (own_j5_2_0 i1 i2))) (fun h => by rw [Bd.returns] at h; cases h)
  refine ⟨_, _, pre5 _ ?_, hrun, hended, _, _, rfl, ?_, ⟨_, rfl⟩, hW, hsame.mono (by decide) (by decide)⟩
  · show Steps p.tables e below (s₁.setTop (mkF m 10 #[.val (.int i1), .val (.int i2)] [(.int (own_j5_2_0 i1 i2))])) _
    exact retI X0 hx Bd.returns (hb hby d5_10) hr
  · show Q5 Z i1 i2 h0 n0 _ s₁.heap _
    rw [e0]
    exact ⟨rfl, N0, rfl⟩
def own_r0 (i1 : Int32) (i2 : Int32) (i3 : Int32) : Int32 := (if (nar .boolean (own_j3_5_0 (own_j4_2_0 i2 i3) i1)) = (0 : Int32) then (1 : Int32) else (if (nar .boolean (own_j3_5_0 (own_j5_2_0 i2 i3) i1)) = (0 : Int32) then (0 : Int32) else (1 : Int32)))
theorem own_ob0_r17 (i1 : Int32) : ¬ ((nar .boolean (own_j3_5_0 i1 i1)) = (0 : Int32)) := by
  rw [show own_j3_5_0 i1 i1 = 1 from if_neg Int32.lt_irrefl]
  decide
theorem own_ob0_r35 (i1 : Int32) (h0 : ¬ (i1 = (-2147483648 : Int32))) : (nar .boolean (own_j3_5_0 (i1 - (1 : Int32)) i1)) = (0 : Int32) := by
  have h1 := c_isub i1 1
  have h2 := rng32 i1
  have h3 := rng32 (i1 - 1)
  have k1 : (1 : Int32).toInt = 1 := by decide
  have km : (-2147483648 : Int32).toInt = -2147483648 := by decide
  have h4 : ¬ i1.toInt = -2147483648 := fun q => h0 (Int32.toInt_inj.mp (by rw [q, km]))
  rw [show own_j3_5_0 (i1 - 1) i1 = 0 from if_pos (Int32.lt_iff_toInt_lt.mpr (by omega))]
  rfl
def Q0 (Z : State) (i1 : Int32) (i2 : Int32) (i3 : Int32) (h0 : Heap) (n0 : Nat) (v : Option Value) (h : Heap) (L : List Loc) : Prop := v = some (.int (own_r0 i1 i2 i3)) ∧ Fr n0 L
theorem ef_0 (m : MethodId) (x0 : Int32) (x1 : Int32) (x2 : Int32) : entryFrame m #[(.int x0), (.int x1), (.int x2)] maxLocals = mkF m 0 #[.val (.int x0), .val (.int x1), .val (.int x2), .unset, .unset, .unset, .unset, .unset] [] := by first | (simp [entryFrame, mkF, argsToLocals, Value.category, maxLocals]; done) | rfl
set_option maxRecDepth 65536 in
set_option maxHeartbeats 40000000 in
theorem rm0 (l : Launch) (Z : State) (a0 : Array Value) (hw : ∀ d ∈ tables_1, d.before a0 Z = true) (ws : List Jvm.Cond) (i1 : Int32) (i2 : Int32) (i3 : Int32) (h0 : Heap) (n0 : Nat) (Z0 : n0 ≤ h0.size) :
    MetFree l x (head1 (Jvm.Cond.code x code maxLocals ret :: ws) room_1) (fun a U => a = #[(.int i1), (.int i2), (.int i3)] ∧ Z.Warmed39 U.vm ∧ U.heap = h0) (fun _ _ _ _ _ => True) (fun _ U o U' => ∃ v L, o = .returned v ∧ Q0 Z i1 i2 i3 h0 n0 v U'.heap L ∧ ReturnedEndW U o U' L room_1.cells room_1.slots) := by
  refine MetFree.of_bodySF (plainFor_of_name pn_1) hisR ?_
  intro p e s m args below meth c s₁ Bd hml0 hP hK
  obtain ⟨rfl, hZ, hh⟩ := hP
  have hx := Bd.exec
  have hby := Bd.bytes
  have hml : c.maxLocals = 8 := hml0
  have hown : s.vm.findClass "com/example/arpol/arpol/DutySetBrokenByCountPinLaw" = some m.cls := findClass_of_methodNamed Bd.named
  have hnm := (name_of_methodNamed Bd.named Bd.method).1
  have X0 : Stand p l e room_1 s m #[(.int i1), (.int i2), (.int i3)] below meth c s₁ [] 0 0 := Stand.of_body Bd
  have e0 : s₁.heap = h0 := by rw [← hh, Bd.state]; rfl
  have N0 := Fr.nil n0
  have pre0 : ∀ t, Steps p.tables e below (s₁.setTop (mkF m 0 #[.val (.int i1), .val (.int i2), .val (.int i3), .unset, .unset, .unset, .unset, .unset] [])) t → Steps p.tables e below (s₁.setTop (entryFrame m #[(.int i1), (.int i2), (.int i3)] maxLocals)) t := fun t k => castTop (ef_0 m i1 i2 i3) k
  obtain ⟨T1, h1, X1, e1, E1, A1, D1, -, st1⟩ := newO X0 hx hZ hown (hw _ (List.mem_of_getElem? (i := 0) rfl)) (hw _ (List.mem_of_getElem? (i := 1) rfl)) (hw _ (List.mem_of_getElem? (i := 2) rfl)) e0 (g := (mkF m 0 #[.val (.int i1), .val (.int i2), .val (.int i3), .unset, .unset, .unset, .unset, .unset] [])) rfl (hb hby at_0) (by decide) (by decide)
  obtain ⟨b1, g1⟩ : ∃ z, z = h0.size := ⟨_, rfl⟩
  rw [← g1] at A1 D1 st1
  have sz_b1 : h0.size ≤ b1 := Nat.le_trans (Keep.refl h0 []).1 (Nat.le_of_eq g1.symm)
  have K2 : Keep h0 h1 [] := (Keep.refl h0 []).ext E1
  have Fname_1 : Fld Z h1 b1 "com/example/arpol/arpol/DutySet" "name" "Ljava/lang/String;" .null := D1 (Or.inr (hw _ (List.mem_of_getElem? (i := 18) rfl))) (ty := (.object "java/lang/String")) (by decide)
  have Fcardinality_1 : Fld Z h1 b1 "com/example/arpol/arpol/DutySet" "cardinality" "I" (.int (0 : Int32)) := D1 (Or.inr (hw _ (List.mem_of_getElem? (i := 20) rfl))) (ty := .int) (by decide)
  have Froles_1 : Fld Z h1 b1 "com/example/arpol/arpol/DutySet" "roles" "Ljava/util/Set;" .null := D1 (Or.inr (hw _ (List.mem_of_getElem? (i := 22) rfl))) (ty := (.object "java/util/Set")) (by decide)
  obtain ⟨a3, T3, h3, k3, X3, e3, E3, S3, kk3, hZ3, hown3, st3⟩ := ldcS (s := s) (vm0 := s.vm) (show Stand p l e room_1 (s.setVm s.vm) m #[(.int i1), (.int i2), (.int i3)] below meth c T1 _ _ _ from X1) hx hZ hown (hw _ (List.mem_of_getElem? (i := 3) rfl)) (fun d hd => hw d (own_str_in d hd)) e1 ((State.WarmedH.refl s).since 0) (Nat.zero_le _) (g := (mkF m 4 #[.val (.int i1), .val (.int i2), .val (.int i3), .unset, .unset, .unset, .unset, .unset] [(.ref b1), (.ref b1)])) rfl (hb hby at_4) (n := 4) (by decide) (by decide) (by decide) (by decide)
  have hZ := hZ3
  have hown := hown3
  have K4 : Keep h0 h3 [] := K2.ext E3
  have f5 := (A1.ext E3)
  have f6 := (Fname_1.ext E3)
  have f7 := (Fcardinality_1.ext E3)
  have f8 := (Froles_1.ext E3)
  obtain ⟨_, _, ⟨T9, L9, k9, n9⟩, -, X9, ⟨Lc9, hQ9, l9, y9, z9⟩, st9⟩ := X3.specialBack hx (y := (⟨"com/example/arpol/arpol/DutySet", "<init>", "(Ljava/lang/String;ILjava/util/Set;)V"⟩ : MethodName)) rfl hown (mvT hZ (hw _ (List.mem_of_getElem? (i := 11) rfl))) (mvT hZ (hw _ (List.mem_of_getElem? (i := 12) rfl))) (mvT hZ (hw _ (List.mem_of_getElem? (i := 13) rfl))) (by decide) (backOf (W := 1) (rm1 l Z a0 hw [] b1 a3 i1 (.null) (.int (0 : Int32)) (.null) h3 n0 (Nat.le_trans Z0 K4.1) f5 f6 (Nat.le_trans Z0 sz_b1) f7 f8) hZ (hw _ (List.mem_of_getElem? (i := 13) rfl)) (hw _ (List.mem_of_getElem? (i := 2) rfl)) (by decide) (by decide)) (g := (mkF m 8 #[.val (.int i1), .val (.int i2), .val (.int i3), .unset, .unset, .unset, .unset, .unset] [.null, (.int i1), (.ref a3), (.ref b1), (.ref b1)])) rfl (by rw [hml]; rfl) (Steps.refl _) (a := b1) (argsL := [(.ref a3), (.int i1), .null]) (rest := [(.ref b1)]) (lenOf pd_0 rfl) rfl (by show 2 * 0 + _ ≤ _; exact Nat.le_of_eq rfl) (hb hby at_8) (fun _ _ => ⟨rfl, e3, (by decide : 3 + 0 ≤ _), (by decide : 11 + 0 ≤ _)⟩)
  dsimp only [Pt.U, Pt.locs, Pt.cells, Pt.slots] at X9 l9 y9 z9 st9 hQ9
  subst l9 y9 z9
  obtain ⟨rfl, Nq9, Kq9, f9_0, f9_1, f9_2, f9_3⟩ := hQ9
  have K10 : Keep h0 T9.heap [] := K4.trans Kq9 (allS (Or.inr sz_b1) all0)
  have N9 := Fr.app N0 Nq9
  obtain ⟨cq11, kq11, q11a, q11b, q11c⟩ := isOf hZ rfl f9_0
  obtain ⟨_, _, ⟨T11, L11, k11, n11⟩, -, X11, ⟨Lc11, hQ11, l11, y11, z11⟩, st11⟩ := X9.virtualBack hx (y := (⟨"com/example/arpol/arpol/DutySet", "brokenByCount", "(I)Z"⟩ : MethodName)) (z := (⟨"com/example/arpol/arpol/DutySet", "brokenByCount", "(I)Z"⟩ : MethodName)) hown (mvT hZ (hw _ (List.mem_of_getElem? (i := 23) rfl))) (mvT hZ (hw _ (List.mem_of_getElem? (i := 24) rfl))) (notFace_of_selects (args := #[]) (mvT hZ (hw _ (List.mem_of_getElem? (i := 26) rfl)))) (mvT hZ (hw _ (List.mem_of_getElem? (i := 26) rfl))) (mvT hZ (hw _ (List.mem_of_getElem? (i := 25) rfl))) (by decide) (backOf (W := 0) (rm3 l Z a0 hw [] b1 i1 i1 T9.heap n0 (Nat.le_trans Z0 K10.1) f9_2) hZ (hw _ (List.mem_of_getElem? (i := 27) rfl)) (hw _ (List.mem_of_getElem? (i := 2) rfl)) (by decide) (by decide)) q11a q11c (g := (mkF m 14 #[.val (.int i1), .val (.int i2), .val (.int i3), .val (.ref b1), .unset, .unset, .unset, .unset] [(.int i1), (.ref b1)])) rfl (by rw [hml]; rfl) (Steps.refl _) (argsL := [(.int i1)]) (rest := []) (lenOf pd_1 rfl) rfl (by show 2 * 0 + _ ≤ _; exact Nat.le_of_eq rfl) (hb hby at_14) (fun _ _ => ⟨rfl, rfl, (by decide : 3 + 0 ≤ _), (by decide : 11 + 0 ≤ _)⟩)
  dsimp only [Pt.U, Pt.locs, Pt.cells, Pt.slots] at X11 l11 y11 z11 st11 hQ11
  subst l11 y11 z11
  obtain ⟨rfl, Nq11, e11⟩ := hQ11
  have N11 := Fr.app N9 Nq11
  have hr12 : ¬ ((nar .boolean (own_j3_5_0 i1 i1)) = (0 : Int32)) := (own_ob0_r17 i1)
  have pre13 : ∀ t, Steps p.tables e below (T11.setTop (mkF m 25 #[.val (.int i1), .val (.int i2), .val (.int i3), .val (.ref b1), .unset, .unset, .unset, .unset] [(.int (-2147483648 : Int32)), (.int i1)])) t → Steps p.tables e below (s₁.setTop (entryFrame m #[(.int i1), (.int i2), (.int i3)] maxLocals)) t := by
    intro t k
    refine pre0 _ ?_
    show Steps p.tables e below (s₁.setTop (mkF m 0 #[.val (.int i1), .val (.int i2), .val (.int i3), .unset, .unset, .unset, .unset, .unset] [])) _
    refine st1 _ ?_
    show Steps p.tables e below (T1.setTop (mkF m 3 #[.val (.int i1), .val (.int i2), .val (.int i3), .unset, .unset, .unset, .unset, .unset] [(.ref b1)])) _
    refine XS.dup X1.here hx rfl (hb hby at_3) rfl rfl ?_
    show Steps p.tables e below (T1.setTop (mkF m 4 #[.val (.int i1), .val (.int i2), .val (.int i3), .unset, .unset, .unset, .unset, .unset] [(.ref b1), (.ref b1)])) _
    refine st3 _ ?_
    show Steps p.tables e below (T3.setTop (mkF m 6 #[.val (.int i1), .val (.int i2), .val (.int i3), .unset, .unset, .unset, .unset, .unset] [(.ref a3), (.ref b1), (.ref b1)])) _
    refine XS.iloadN X3.here hx rfl (hb hby at_6) rfl ?_
    show Steps p.tables e below (T3.setTop (mkF m 7 #[.val (.int i1), .val (.int i2), .val (.int i3), .unset, .unset, .unset, .unset, .unset] [(.int i1), (.ref a3), (.ref b1), (.ref b1)])) _
    refine XS.aconstNull X3.here hx rfl (hb hby at_7) ?_
    show Steps p.tables e below (T3.setTop (mkF m 8 #[.val (.int i1), .val (.int i2), .val (.int i3), .unset, .unset, .unset, .unset, .unset] [.null, (.int i1), (.ref a3), (.ref b1), (.ref b1)])) _
    refine st9.trans ?_
    show Steps p.tables e below (T9.setTop (mkF m 11 #[.val (.int i1), .val (.int i2), .val (.int i3), .unset, .unset, .unset, .unset, .unset] [(.ref b1)])) _
    refine XS.astoreN X9.here hx rfl (hb hby at_11) rfl rfl (l' := #[.val (.int i1), .val (.int i2), .val (.int i3), .val (.ref b1), .unset, .unset, .unset, .unset]) rfl ?_
    show Steps p.tables e below (T9.setTop (mkF m 12 #[.val (.int i1), .val (.int i2), .val (.int i3), .val (.ref b1), .unset, .unset, .unset, .unset] [])) _
    refine XS.aloadN X9.here hx rfl (hb hby at_12) rfl rfl ?_
    show Steps p.tables e below (T9.setTop (mkF m 13 #[.val (.int i1), .val (.int i2), .val (.int i3), .val (.ref b1), .unset, .unset, .unset, .unset] [(.ref b1)])) _
    refine XS.iloadN X9.here hx rfl (hb hby at_13) rfl ?_
    show Steps p.tables e below (T9.setTop (mkF m 14 #[.val (.int i1), .val (.int i2), .val (.int i3), .val (.ref b1), .unset, .unset, .unset, .unset] [(.int i1), (.ref b1)])) _
    refine st11.trans ?_
    show Steps p.tables e below (T11.setTop (mkF m 17 #[.val (.int i1), .val (.int i2), .val (.int i3), .val (.ref b1), .unset, .unset, .unset, .unset] [(.int (nar .boolean (own_j3_5_0 i1 i1)))])) _
    refine XS.ifYes X11.here hx rfl (pc0 := 17) (pc' := 22) rfl (hb hby at_17) rfl ((if0 _ _).trans (feq hr12).2) (by decide) (by decide) ?_
    show Steps p.tables e below (T11.setTop (mkF m 22 #[.val (.int i1), .val (.int i2), .val (.int i3), .val (.ref b1), .unset, .unset, .unset, .unset] [])) _
    refine XS.iloadN X11.here hx rfl (hb hby at_22) rfl ?_
    show Steps p.tables e below (T11.setTop (mkF m 23 #[.val (.int i1), .val (.int i2), .val (.int i3), .val (.ref b1), .unset, .unset, .unset, .unset] [(.int i1)])) _
    refine X11.ldcInt hx hown (mvT hZ (hw _ (List.mem_of_getElem? (i := 28) rfl))) (g := (mkF m 23 #[.val (.int i1), .val (.int i2), .val (.int i3), .val (.ref b1), .unset, .unset, .unset, .unset] [(.int i1)])) rfl (hb hby at_23) _ ?_
    exact k
  obtain ⟨T19, Lq19, X19, N19, e19, pre19⟩ : ∃ (T' : State) (locs' : List Loc), Stand p l e room_1 (s.setVm T3.vm) m #[(.int i1), (.int i2), (.int i3)] below meth c T' locs' 3 11 ∧ Fr n0 locs' ∧ T'.heap = T9.heap ∧ ∀ t, Steps p.tables e below (T'.setTop (mkF m 40 #[.val (.int i1), .val (.int i2), .val (.int i3), .val (.ref b1), .unset, .unset, .unset, .unset] [])) t → Steps p.tables e below (s₁.setTop (entryFrame m #[(.int i1), (.int i2), (.int i3)] maxLocals)) t := by
    by_cases hc25_14 : i1 = (-2147483648 : Int32)
    · have pre15 : ∀ t, Steps p.tables e below (T11.setTop (mkF m 40 #[.val (.int i1), .val (.int i2), .val (.int i3), .val (.ref b1), .unset, .unset, .unset, .unset] [])) t → Steps p.tables e below (s₁.setTop (entryFrame m #[(.int i1), (.int i2), (.int i3)] maxLocals)) t := by
        intro t k
        refine pre13 _ ?_
        show Steps p.tables e below (T11.setTop (mkF m 25 #[.val (.int i1), .val (.int i2), .val (.int i3), .val (.ref b1), .unset, .unset, .unset, .unset] [(.int (-2147483648 : Int32)), (.int i1)])) _
        refine XS.icmpYes X11.here hx rfl (pc0 := 25) (pc' := 40) rfl (hb hby at_25) rfl (teq hc25_14).1 (by decide) (by decide) ?_
        exact k
      exact ⟨T11, _, X11, N11, e11, pre15⟩
    · obtain ⟨cq16, kq16, q16a, q16b, q16c⟩ := isOf hZ e11 f9_0
      obtain ⟨_, _, ⟨T16, L16, k16, n16⟩, -, X16, ⟨Lc16, hQ16, l16, y16, z16⟩, st16⟩ := X11.virtualBack hx (y := (⟨"com/example/arpol/arpol/DutySet", "brokenByCount", "(I)Z"⟩ : MethodName)) (z := (⟨"com/example/arpol/arpol/DutySet", "brokenByCount", "(I)Z"⟩ : MethodName)) hown (mvT hZ (hw _ (List.mem_of_getElem? (i := 23) rfl))) (mvT hZ (hw _ (List.mem_of_getElem? (i := 24) rfl))) (notFace_of_selects (args := #[]) (mvT hZ (hw _ (List.mem_of_getElem? (i := 26) rfl)))) (mvT hZ (hw _ (List.mem_of_getElem? (i := 26) rfl))) (mvT hZ (hw _ (List.mem_of_getElem? (i := 25) rfl))) (by decide) (backOf (W := 0) (rm3 l Z a0 hw [] b1 (i1 - (1 : Int32)) i1 T9.heap n0 (Nat.le_trans Z0 K10.1) f9_2) hZ (hw _ (List.mem_of_getElem? (i := 27) rfl)) (hw _ (List.mem_of_getElem? (i := 2) rfl)) (by decide) (by decide)) q16a q16c (g := (mkF m 32 #[.val (.int i1), .val (.int i2), .val (.int i3), .val (.ref b1), .unset, .unset, .unset, .unset] [(.int (i1 - (1 : Int32))), (.ref b1)])) rfl (by rw [hml]; rfl) (Steps.refl _) (argsL := [(.int (i1 - (1 : Int32)))]) (rest := []) (lenOf pd_1 rfl) rfl (by show 2 * 0 + _ ≤ _; exact Nat.le_of_eq rfl) (hb hby at_32) (fun _ _ => ⟨rfl, e11, (by decide : 3 + 0 ≤ _), (by decide : 11 + 0 ≤ _)⟩)
      dsimp only [Pt.U, Pt.locs, Pt.cells, Pt.slots] at X16 l16 y16 z16 st16 hQ16
      subst l16 y16 z16
      obtain ⟨rfl, Nq16, e16⟩ := hQ16
      have N16 := Fr.app N11 Nq16
      have hr17 : (nar .boolean (own_j3_5_0 (i1 - (1 : Int32)) i1)) = (0 : Int32) := (own_ob0_r35 i1 hc25_14)
      have pre18 : ∀ t, Steps p.tables e below (T16.setTop (mkF m 40 #[.val (.int i1), .val (.int i2), .val (.int i3), .val (.ref b1), .unset, .unset, .unset, .unset] [])) t → Steps p.tables e below (s₁.setTop (entryFrame m #[(.int i1), (.int i2), (.int i3)] maxLocals)) t := by
        intro t k
        refine pre13 _ ?_
        show Steps p.tables e below (T11.setTop (mkF m 25 #[.val (.int i1), .val (.int i2), .val (.int i3), .val (.ref b1), .unset, .unset, .unset, .unset] [(.int (-2147483648 : Int32)), (.int i1)])) _
        refine XS.icmpNo X11.here hx rfl (hb hby at_25) rfl (feq hc25_14).1 ?_
        show Steps p.tables e below (T11.setTop (mkF m 28 #[.val (.int i1), .val (.int i2), .val (.int i3), .val (.ref b1), .unset, .unset, .unset, .unset] [])) _
        refine XS.aloadN X11.here hx rfl (hb hby at_28) rfl rfl ?_
        show Steps p.tables e below (T11.setTop (mkF m 29 #[.val (.int i1), .val (.int i2), .val (.int i3), .val (.ref b1), .unset, .unset, .unset, .unset] [(.ref b1)])) _
        refine XS.iloadN X11.here hx rfl (hb hby at_29) rfl ?_
        show Steps p.tables e below (T11.setTop (mkF m 30 #[.val (.int i1), .val (.int i2), .val (.int i3), .val (.ref b1), .unset, .unset, .unset, .unset] [(.int i1), (.ref b1)])) _
        refine XS.iconst X11.here hx rfl (hb hby at_30) ?_
        show Steps p.tables e below (T11.setTop (mkF m 31 #[.val (.int i1), .val (.int i2), .val (.int i3), .val (.ref b1), .unset, .unset, .unset, .unset] [(.int (1 : Int32)), (.int i1), (.ref b1)])) _
        refine XS.isub X11.here hx rfl (hb hby at_31) rfl ?_
        show Steps p.tables e below (T11.setTop (mkF m 32 #[.val (.int i1), .val (.int i2), .val (.int i3), .val (.ref b1), .unset, .unset, .unset, .unset] [(.int (i1 - (1 : Int32))), (.ref b1)])) _
        refine st16.trans ?_
        show Steps p.tables e below (T16.setTop (mkF m 35 #[.val (.int i1), .val (.int i2), .val (.int i3), .val (.ref b1), .unset, .unset, .unset, .unset] [(.int (nar .boolean (own_j3_5_0 (i1 - (1 : Int32)) i1)))])) _
        refine XS.ifYes X16.here hx rfl (pc0 := 35) (pc' := 40) rfl (hb hby at_35) rfl ((if0 _ _).trans (teq hr17).1) (by decide) (by decide) ?_
        exact k
      exact ⟨T16, _, X16, N16, e16, pre18⟩
  obtain ⟨_, _, ⟨T20, L20, k20, n20⟩, -, X20, ⟨Lc20, hQ20, l20, y20, z20⟩, st20⟩ := Jvm.LawKit.callS X19 hx (y := (⟨"java/lang/Math", "min", "(II)I"⟩ : MethodName)) hown (mvT hZ (hw _ (List.mem_of_getElem? (i := 29) rfl))) (mvT hZ (hw _ (List.mem_of_getElem? (i := 30) rfl))) (mvT hZ (hw _ (List.mem_of_getElem? (i := 31) rfl))) (mvT hZ (hw _ (List.mem_of_getElem? (i := 32) rfl))) (by decide) (backOf (W := 0) (rm4 l Z a0 hw [] i2 i3 T9.heap n0 (Nat.le_trans Z0 K10.1) ) hZ (hw _ (List.mem_of_getElem? (i := 32) rfl)) (hw _ (List.mem_of_getElem? (i := 31) rfl)) (by decide) (by decide)) (g := (mkF m 42 #[.val (.int i1), .val (.int i2), .val (.int i3), .val (.ref b1), .unset, .unset, .unset, .unset] [(.int i3), (.int i2)])) rfl (by rw [hml]; rfl) (argsL := [(.int i2), (.int i3)]) (rest := []) (lenOf pd_2 rfl) rfl (by show 2 * 0 + _ ≤ _; exact Nat.le_of_eq rfl) (hb hby at_42) (fun _ _ => ⟨rfl, e19, (by decide : 3 + 0 ≤ _), (by decide : 11 + 0 ≤ _)⟩)
  dsimp only [Pt.U, Pt.locs, Pt.cells, Pt.slots] at X20 l20 y20 z20 st20 hQ20
  subst l20 y20 z20
  obtain ⟨rfl, Nq20, e20⟩ := hQ20
  have N20 := Fr.app N19 Nq20
  obtain ⟨_, _, ⟨T21, L21, k21, n21⟩, -, X21, ⟨Lc21, hQ21, l21, y21, z21⟩, st21⟩ := Jvm.LawKit.callS X20 hx (y := (⟨"java/lang/Math", "max", "(II)I"⟩ : MethodName)) hown (mvT hZ (hw _ (List.mem_of_getElem? (i := 33) rfl))) (mvT hZ (hw _ (List.mem_of_getElem? (i := 34) rfl))) (mvT hZ (hw _ (List.mem_of_getElem? (i := 31) rfl))) (mvT hZ (hw _ (List.mem_of_getElem? (i := 35) rfl))) (by decide) (backOf (W := 0) (rm5 l Z a0 hw [] i2 i3 T9.heap n0 (Nat.le_trans Z0 K10.1) ) hZ (hw _ (List.mem_of_getElem? (i := 35) rfl)) (hw _ (List.mem_of_getElem? (i := 31) rfl)) (by decide) (by decide)) (g := (mkF m 49 #[.val (.int i1), .val (.int i2), .val (.int i3), .val (.ref b1), .val (.int (own_j4_2_0 i2 i3)), .unset, .unset, .unset] [(.int i3), (.int i2)])) rfl (by rw [hml]; rfl) (argsL := [(.int i2), (.int i3)]) (rest := []) (lenOf pd_2 rfl) rfl (by show 2 * 0 + _ ≤ _; exact Nat.le_of_eq rfl) (hb hby at_49) (fun _ _ => ⟨rfl, e20, (by decide : 3 + 0 ≤ _), (by decide : 11 + 0 ≤ _)⟩)
  dsimp only [Pt.U, Pt.locs, Pt.cells, Pt.slots] at X21 l21 y21 z21 st21 hQ21
  subst l21 y21 z21
  obtain ⟨rfl, Nq21, e21⟩ := hQ21
  have N21 := Fr.app N20 Nq21
  obtain ⟨cq22, kq22, q22a, q22b, q22c⟩ := isOf hZ e21 f9_0
  obtain ⟨_, _, ⟨T22, L22, k22, n22⟩, -, X22, ⟨Lc22, hQ22, l22, y22, z22⟩, st22⟩ := X21.virtualBack hx (y := (⟨"com/example/arpol/arpol/DutySet", "brokenByCount", "(I)Z"⟩ : MethodName)) (z := (⟨"com/example/arpol/arpol/DutySet", "brokenByCount", "(I)Z"⟩ : MethodName)) hown (mvT hZ (hw _ (List.mem_of_getElem? (i := 23) rfl))) (mvT hZ (hw _ (List.mem_of_getElem? (i := 24) rfl))) (notFace_of_selects (args := #[]) (mvT hZ (hw _ (List.mem_of_getElem? (i := 26) rfl)))) (mvT hZ (hw _ (List.mem_of_getElem? (i := 26) rfl))) (mvT hZ (hw _ (List.mem_of_getElem? (i := 25) rfl))) (by decide) (backOf (W := 0) (rm3 l Z a0 hw [] b1 (own_j4_2_0 i2 i3) i1 T9.heap n0 (Nat.le_trans Z0 K10.1) f9_2) hZ (hw _ (List.mem_of_getElem? (i := 27) rfl)) (hw _ (List.mem_of_getElem? (i := 2) rfl)) (by decide) (by decide)) q22a q22c (g := (mkF m 57 #[.val (.int i1), .val (.int i2), .val (.int i3), .val (.ref b1), .val (.int (own_j4_2_0 i2 i3)), .val (.int (own_j5_2_0 i2 i3)), .unset, .unset] [(.int (own_j4_2_0 i2 i3)), (.ref b1)])) rfl (by rw [hml]; rfl) (Steps.refl _) (argsL := [(.int (own_j4_2_0 i2 i3))]) (rest := []) (lenOf pd_1 rfl) rfl (by show 2 * 0 + _ ≤ _; exact Nat.le_of_eq rfl) (hb hby at_57) (fun _ _ => ⟨rfl, e21, (by decide : 3 + 0 ≤ _), (by decide : 11 + 0 ≤ _)⟩)
  dsimp only [Pt.U, Pt.locs, Pt.cells, Pt.slots] at X22 l22 y22 z22 st22 hQ22
  subst l22 y22 z22
  obtain ⟨rfl, Nq22, e22⟩ := hQ22
  have N22 := Fr.app N21 Nq22
  obtain ⟨cq23, kq23, q23a, q23b, q23c⟩ := isOf hZ e22 f9_0
  obtain ⟨_, _, ⟨T23, L23, k23, n23⟩, -, X23, ⟨Lc23, hQ23, l23, y23, z23⟩, st23⟩ := X22.virtualBack hx (y := (⟨"com/example/arpol/arpol/DutySet", "brokenByCount", "(I)Z"⟩ : MethodName)) (z := (⟨"com/example/arpol/arpol/DutySet", "brokenByCount", "(I)Z"⟩ : MethodName)) hown (mvT hZ (hw _ (List.mem_of_getElem? (i := 23) rfl))) (mvT hZ (hw _ (List.mem_of_getElem? (i := 24) rfl))) (notFace_of_selects (args := #[]) (mvT hZ (hw _ (List.mem_of_getElem? (i := 26) rfl)))) (mvT hZ (hw _ (List.mem_of_getElem? (i := 26) rfl))) (mvT hZ (hw _ (List.mem_of_getElem? (i := 25) rfl))) (by decide) (backOf (W := 0) (rm3 l Z a0 hw [] b1 (own_j5_2_0 i2 i3) i1 T9.heap n0 (Nat.le_trans Z0 K10.1) f9_2) hZ (hw _ (List.mem_of_getElem? (i := 27) rfl)) (hw _ (List.mem_of_getElem? (i := 2) rfl)) (by decide) (by decide)) q23a q23c (g := (mkF m 65 #[.val (.int i1), .val (.int i2), .val (.int i3), .val (.ref b1), .val (.int (own_j4_2_0 i2 i3)), .val (.int (own_j5_2_0 i2 i3)), .val (.int (nar .boolean (own_j3_5_0 (own_j4_2_0 i2 i3) i1))), .unset] [(.int (own_j5_2_0 i2 i3)), (.ref b1)])) rfl (by rw [hml]; rfl) (Steps.refl _) (argsL := [(.int (own_j5_2_0 i2 i3))]) (rest := []) (lenOf pd_1 rfl) rfl (by show 2 * 0 + _ ≤ _; exact Nat.le_of_eq rfl) (hb hby at_65) (fun _ _ => ⟨rfl, e22, (by decide : 3 + 0 ≤ _), (by decide : 11 + 0 ≤ _)⟩)
  dsimp only [Pt.U, Pt.locs, Pt.cells, Pt.slots] at X23 l23 y23 z23 st23 hQ23
  subst l23 y23 z23
  obtain ⟨rfl, Nq23, e23⟩ := hQ23
  have N23 := Fr.app N22 Nq23
  have pre24 : ∀ t, Steps p.tables e below (T23.setTop (mkF m 72 #[.val (.int i1), .val (.int i2), .val (.int i3), .val (.ref b1), .val (.int (own_j4_2_0 i2 i3)), .val (.int (own_j5_2_0 i2 i3)), .val (.int (nar .boolean (own_j3_5_0 (own_j4_2_0 i2 i3) i1))), .val (.int (nar .boolean (own_j3_5_0 (own_j5_2_0 i2 i3) i1)))] [(.int (nar .boolean (own_j3_5_0 (own_j4_2_0 i2 i3) i1)))])) t → Steps p.tables e below (s₁.setTop (entryFrame m #[(.int i1), (.int i2), (.int i3)] maxLocals)) t := by
    intro t k
    refine pre19 _ ?_
    show Steps p.tables e below (T19.setTop (mkF m 40 #[.val (.int i1), .val (.int i2), .val (.int i3), .val (.ref b1), .unset, .unset, .unset, .unset] [])) _
    refine XS.iloadN X19.here hx rfl (hb hby at_40) rfl ?_
    show Steps p.tables e below (T19.setTop (mkF m 41 #[.val (.int i1), .val (.int i2), .val (.int i3), .val (.ref b1), .unset, .unset, .unset, .unset] [(.int i2)])) _
    refine XS.iloadN X19.here hx rfl (hb hby at_41) rfl ?_
    show Steps p.tables e below (T19.setTop (mkF m 42 #[.val (.int i1), .val (.int i2), .val (.int i3), .val (.ref b1), .unset, .unset, .unset, .unset] [(.int i3), (.int i2)])) _
    refine st20 _ ?_
    show Steps p.tables e below (T20.setTop (mkF m 45 #[.val (.int i1), .val (.int i2), .val (.int i3), .val (.ref b1), .unset, .unset, .unset, .unset] [(.int (own_j4_2_0 i2 i3))])) _
    refine XS.istore X20.here hx rfl (hb hby at_45) rfl (l' := #[.val (.int i1), .val (.int i2), .val (.int i3), .val (.ref b1), .val (.int (own_j4_2_0 i2 i3)), .unset, .unset, .unset]) rfl ?_
    show Steps p.tables e below (T20.setTop (mkF m 47 #[.val (.int i1), .val (.int i2), .val (.int i3), .val (.ref b1), .val (.int (own_j4_2_0 i2 i3)), .unset, .unset, .unset] [])) _
    refine XS.iloadN X20.here hx rfl (hb hby at_47) rfl ?_
    show Steps p.tables e below (T20.setTop (mkF m 48 #[.val (.int i1), .val (.int i2), .val (.int i3), .val (.ref b1), .val (.int (own_j4_2_0 i2 i3)), .unset, .unset, .unset] [(.int i2)])) _
    refine XS.iloadN X20.here hx rfl (hb hby at_48) rfl ?_
    show Steps p.tables e below (T20.setTop (mkF m 49 #[.val (.int i1), .val (.int i2), .val (.int i3), .val (.ref b1), .val (.int (own_j4_2_0 i2 i3)), .unset, .unset, .unset] [(.int i3), (.int i2)])) _
    refine st21 _ ?_
    show Steps p.tables e below (T21.setTop (mkF m 52 #[.val (.int i1), .val (.int i2), .val (.int i3), .val (.ref b1), .val (.int (own_j4_2_0 i2 i3)), .unset, .unset, .unset] [(.int (own_j5_2_0 i2 i3))])) _
    refine XS.istore X21.here hx rfl (hb hby at_52) rfl (l' := #[.val (.int i1), .val (.int i2), .val (.int i3), .val (.ref b1), .val (.int (own_j4_2_0 i2 i3)), .val (.int (own_j5_2_0 i2 i3)), .unset, .unset]) rfl ?_
    show Steps p.tables e below (T21.setTop (mkF m 54 #[.val (.int i1), .val (.int i2), .val (.int i3), .val (.ref b1), .val (.int (own_j4_2_0 i2 i3)), .val (.int (own_j5_2_0 i2 i3)), .unset, .unset] [])) _
    refine XS.aloadN X21.here hx rfl (hb hby at_54) rfl rfl ?_
    show Steps p.tables e below (T21.setTop (mkF m 55 #[.val (.int i1), .val (.int i2), .val (.int i3), .val (.ref b1), .val (.int (own_j4_2_0 i2 i3)), .val (.int (own_j5_2_0 i2 i3)), .unset, .unset] [(.ref b1)])) _
    refine XS.iload X21.here hx rfl (hb hby at_55) rfl ?_
    show Steps p.tables e below (T21.setTop (mkF m 57 #[.val (.int i1), .val (.int i2), .val (.int i3), .val (.ref b1), .val (.int (own_j4_2_0 i2 i3)), .val (.int (own_j5_2_0 i2 i3)), .unset, .unset] [(.int (own_j4_2_0 i2 i3)), (.ref b1)])) _
    refine st22.trans ?_
    show Steps p.tables e below (T22.setTop (mkF m 60 #[.val (.int i1), .val (.int i2), .val (.int i3), .val (.ref b1), .val (.int (own_j4_2_0 i2 i3)), .val (.int (own_j5_2_0 i2 i3)), .unset, .unset] [(.int (nar .boolean (own_j3_5_0 (own_j4_2_0 i2 i3) i1)))])) _
    refine XS.istore X22.here hx rfl (hb hby at_60) rfl (l' := #[.val (.int i1), .val (.int i2), .val (.int i3), .val (.ref b1), .val (.int (own_j4_2_0 i2 i3)), .val (.int (own_j5_2_0 i2 i3)), .val (.int (nar .boolean (own_j3_5_0 (own_j4_2_0 i2 i3) i1))), .unset]) rfl ?_
    show Steps p.tables e below (T22.setTop (mkF m 62 #[.val (.int i1), .val (.int i2), .val (.int i3), .val (.ref b1), .val (.int (own_j4_2_0 i2 i3)), .val (.int (own_j5_2_0 i2 i3)), .val (.int (nar .boolean (own_j3_5_0 (own_j4_2_0 i2 i3) i1))), .unset] [])) _
    refine XS.aloadN X22.here hx rfl (hb hby at_62) rfl rfl ?_
    show Steps p.tables e below (T22.setTop (mkF m 63 #[.val (.int i1), .val (.int i2), .val (.int i3), .val (.ref b1), .val (.int (own_j4_2_0 i2 i3)), .val (.int (own_j5_2_0 i2 i3)), .val (.int (nar .boolean (own_j3_5_0 (own_j4_2_0 i2 i3) i1))), .unset] [(.ref b1)])) _
    refine XS.iload X22.here hx rfl (hb hby at_63) rfl ?_
    show Steps p.tables e below (T22.setTop (mkF m 65 #[.val (.int i1), .val (.int i2), .val (.int i3), .val (.ref b1), .val (.int (own_j4_2_0 i2 i3)), .val (.int (own_j5_2_0 i2 i3)), .val (.int (nar .boolean (own_j3_5_0 (own_j4_2_0 i2 i3) i1))), .unset] [(.int (own_j5_2_0 i2 i3)), (.ref b1)])) _
    refine st23.trans ?_
    show Steps p.tables e below (T23.setTop (mkF m 68 #[.val (.int i1), .val (.int i2), .val (.int i3), .val (.ref b1), .val (.int (own_j4_2_0 i2 i3)), .val (.int (own_j5_2_0 i2 i3)), .val (.int (nar .boolean (own_j3_5_0 (own_j4_2_0 i2 i3) i1))), .unset] [(.int (nar .boolean (own_j3_5_0 (own_j5_2_0 i2 i3) i1)))])) _
    refine XS.istore X23.here hx rfl (hb hby at_68) rfl (l' := #[.val (.int i1), .val (.int i2), .val (.int i3), .val (.ref b1), .val (.int (own_j4_2_0 i2 i3)), .val (.int (own_j5_2_0 i2 i3)), .val (.int (nar .boolean (own_j3_5_0 (own_j4_2_0 i2 i3) i1))), .val (.int (nar .boolean (own_j3_5_0 (own_j5_2_0 i2 i3) i1)))]) rfl ?_
    show Steps p.tables e below (T23.setTop (mkF m 70 #[.val (.int i1), .val (.int i2), .val (.int i3), .val (.ref b1), .val (.int (own_j4_2_0 i2 i3)), .val (.int (own_j5_2_0 i2 i3)), .val (.int (nar .boolean (own_j3_5_0 (own_j4_2_0 i2 i3) i1))), .val (.int (nar .boolean (own_j3_5_0 (own_j5_2_0 i2 i3) i1)))] [])) _
    refine XS.iload X23.here hx rfl (hb hby at_70) rfl ?_
    exact k
  by_cases hc72_25 : (nar .boolean (own_j3_5_0 (own_j4_2_0 i2 i3) i1)) = (0 : Int32)
  · have pre26 : ∀ t, Steps p.tables e below (T23.setTop (mkF m 83 #[.val (.int i1), .val (.int i2), .val (.int i3), .val (.ref b1), .val (.int (own_j4_2_0 i2 i3)), .val (.int (own_j5_2_0 i2 i3)), .val (.int (nar .boolean (own_j3_5_0 (own_j4_2_0 i2 i3) i1))), .val (.int (nar .boolean (own_j3_5_0 (own_j5_2_0 i2 i3) i1)))] [(.int (1 : Int32))])) t → Steps p.tables e below (s₁.setTop (entryFrame m #[(.int i1), (.int i2), (.int i3)] maxLocals)) t := by
      intro t k
      refine pre24 _ ?_
      show Steps p.tables e below (T23.setTop (mkF m 72 #[.val (.int i1), .val (.int i2), .val (.int i3), .val (.ref b1), .val (.int (own_j4_2_0 i2 i3)), .val (.int (own_j5_2_0 i2 i3)), .val (.int (nar .boolean (own_j3_5_0 (own_j4_2_0 i2 i3) i1))), .val (.int (nar .boolean (own_j3_5_0 (own_j5_2_0 i2 i3) i1)))] [(.int (nar .boolean (own_j3_5_0 (own_j4_2_0 i2 i3) i1)))])) _
      refine XS.ifYes X23.here hx rfl (pc0 := 72) (pc' := 82) rfl (hb hby at_72) rfl ((if0 _ _).trans (teq hc72_25).1) (by decide) (by decide) ?_
      show Steps p.tables e below (T23.setTop (mkF m 82 #[.val (.int i1), .val (.int i2), .val (.int i3), .val (.ref b1), .val (.int (own_j4_2_0 i2 i3)), .val (.int (own_j5_2_0 i2 i3)), .val (.int (nar .boolean (own_j3_5_0 (own_j4_2_0 i2 i3) i1))), .val (.int (nar .boolean (own_j3_5_0 (own_j5_2_0 i2 i3) i1)))] [])) _
      refine XS.iconst X23.here hx rfl (hb hby at_82) ?_
      exact k
    obtain ⟨fs, hr, hrun, hended, hRW⟩ := Stand.leaveW (s := s) (vm₁ := T3.vm) (show Stand p l e room_1 (s.setVm T3.vm) m #[(.int i1), (.int i2), (.int i3)] below meth c T23 _ _ _ from X23) S3 (by rw [e23]; exact Nat.le_trans kk3 Kq9.1) (v := some (.int (1 : Int32))) (fun h => by rw [Bd.returns] at h; cases h)
    refine ⟨_, _, pre26 _ ?_, hrun, hended, _, _, rfl, ?_, hRW.1, hRW.2.1, hRW.2.2.1, hRW.2.2.2.mono (by decide) (by decide)⟩
    · show Steps p.tables e below (T23.setTop (mkF m 83 #[.val (.int i1), .val (.int i2), .val (.int i3), .val (.ref b1), .val (.int (own_j4_2_0 i2 i3)), .val (.int (own_j5_2_0 i2 i3)), .val (.int (nar .boolean (own_j3_5_0 (own_j4_2_0 i2 i3) i1))), .val (.int (nar .boolean (own_j3_5_0 (own_j5_2_0 i2 i3) i1)))] [(.int (1 : Int32))])) _
      exact retN X23 hx (t := .boolean) Bd.returns (by simp) (hb hby at_83) hr
    · show Q0 Z i1 i2 i3 h0 n0 _ T23.heap _
      rw [e23]
      exact ⟨congrArg (fun z => some (Value.int z)) (show (own_r0 i1 i2 i3) = (1 : Int32) from (if_pos hc72_25)).symm, N23⟩
  · have pre27 : ∀ t, Steps p.tables e below (T23.setTop (mkF m 77 #[.val (.int i1), .val (.int i2), .val (.int i3), .val (.ref b1), .val (.int (own_j4_2_0 i2 i3)), .val (.int (own_j5_2_0 i2 i3)), .val (.int (nar .boolean (own_j3_5_0 (own_j4_2_0 i2 i3) i1))), .val (.int (nar .boolean (own_j3_5_0 (own_j5_2_0 i2 i3) i1)))] [(.int (nar .boolean (own_j3_5_0 (own_j5_2_0 i2 i3) i1)))])) t → Steps p.tables e below (s₁.setTop (entryFrame m #[(.int i1), (.int i2), (.int i3)] maxLocals)) t := by
      intro t k
      refine pre24 _ ?_
      show Steps p.tables e below (T23.setTop (mkF m 72 #[.val (.int i1), .val (.int i2), .val (.int i3), .val (.ref b1), .val (.int (own_j4_2_0 i2 i3)), .val (.int (own_j5_2_0 i2 i3)), .val (.int (nar .boolean (own_j3_5_0 (own_j4_2_0 i2 i3) i1))), .val (.int (nar .boolean (own_j3_5_0 (own_j5_2_0 i2 i3) i1)))] [(.int (nar .boolean (own_j3_5_0 (own_j4_2_0 i2 i3) i1)))])) _
      refine XS.ifNo X23.here hx rfl (hb hby at_72) rfl ((if0 _ _).trans (feq hc72_25).1) ?_
      show Steps p.tables e below (T23.setTop (mkF m 75 #[.val (.int i1), .val (.int i2), .val (.int i3), .val (.ref b1), .val (.int (own_j4_2_0 i2 i3)), .val (.int (own_j5_2_0 i2 i3)), .val (.int (nar .boolean (own_j3_5_0 (own_j4_2_0 i2 i3) i1))), .val (.int (nar .boolean (own_j3_5_0 (own_j5_2_0 i2 i3) i1)))] [])) _
      refine XS.iload X23.here hx rfl (hb hby at_75) rfl ?_
      exact k
    by_cases hc77_28 : (nar .boolean (own_j3_5_0 (own_j5_2_0 i2 i3) i1)) = (0 : Int32)
    · have pre29 : ∀ t, Steps p.tables e below (T23.setTop (mkF m 81 #[.val (.int i1), .val (.int i2), .val (.int i3), .val (.ref b1), .val (.int (own_j4_2_0 i2 i3)), .val (.int (own_j5_2_0 i2 i3)), .val (.int (nar .boolean (own_j3_5_0 (own_j4_2_0 i2 i3) i1))), .val (.int (nar .boolean (own_j3_5_0 (own_j5_2_0 i2 i3) i1)))] [(.int (0 : Int32))])) t → Steps p.tables e below (s₁.setTop (entryFrame m #[(.int i1), (.int i2), (.int i3)] maxLocals)) t := by
        intro t k
        refine pre27 _ ?_
        show Steps p.tables e below (T23.setTop (mkF m 77 #[.val (.int i1), .val (.int i2), .val (.int i3), .val (.ref b1), .val (.int (own_j4_2_0 i2 i3)), .val (.int (own_j5_2_0 i2 i3)), .val (.int (nar .boolean (own_j3_5_0 (own_j4_2_0 i2 i3) i1))), .val (.int (nar .boolean (own_j3_5_0 (own_j5_2_0 i2 i3) i1)))] [(.int (nar .boolean (own_j3_5_0 (own_j5_2_0 i2 i3) i1)))])) _
        refine XS.ifNo X23.here hx rfl (hb hby at_77) rfl ((if0 _ _).trans (teq hc77_28).2) ?_
        show Steps p.tables e below (T23.setTop (mkF m 80 #[.val (.int i1), .val (.int i2), .val (.int i3), .val (.ref b1), .val (.int (own_j4_2_0 i2 i3)), .val (.int (own_j5_2_0 i2 i3)), .val (.int (nar .boolean (own_j3_5_0 (own_j4_2_0 i2 i3) i1))), .val (.int (nar .boolean (own_j3_5_0 (own_j5_2_0 i2 i3) i1)))] [])) _
        refine XS.iconst X23.here hx rfl (hb hby at_80) ?_
        exact k
      obtain ⟨fs, hr, hrun, hended, hRW⟩ := Stand.leaveW (s := s) (vm₁ := T3.vm) (show Stand p l e room_1 (s.setVm T3.vm) m #[(.int i1), (.int i2), (.int i3)] below meth c T23 _ _ _ from X23) S3 (by rw [e23]; exact Nat.le_trans kk3 Kq9.1) (v := some (.int (0 : Int32))) (fun h => by rw [Bd.returns] at h; cases h)
      refine ⟨_, _, pre29 _ ?_, hrun, hended, _, _, rfl, ?_, hRW.1, hRW.2.1, hRW.2.2.1, hRW.2.2.2.mono (by decide) (by decide)⟩
      · show Steps p.tables e below (T23.setTop (mkF m 81 #[.val (.int i1), .val (.int i2), .val (.int i3), .val (.ref b1), .val (.int (own_j4_2_0 i2 i3)), .val (.int (own_j5_2_0 i2 i3)), .val (.int (nar .boolean (own_j3_5_0 (own_j4_2_0 i2 i3) i1))), .val (.int (nar .boolean (own_j3_5_0 (own_j5_2_0 i2 i3) i1)))] [(.int (0 : Int32))])) _
        exact retN X23 hx (t := .boolean) Bd.returns (by simp) (hb hby at_81) hr
      · show Q0 Z i1 i2 i3 h0 n0 _ T23.heap _
        rw [e23]
        exact ⟨congrArg (fun z => some (Value.int z)) (show (own_r0 i1 i2 i3) = (0 : Int32) from ((if_neg hc72_25).trans (if_pos hc77_28))).symm, N23⟩
    · have pre30 : ∀ t, Steps p.tables e below (T23.setTop (mkF m 83 #[.val (.int i1), .val (.int i2), .val (.int i3), .val (.ref b1), .val (.int (own_j4_2_0 i2 i3)), .val (.int (own_j5_2_0 i2 i3)), .val (.int (nar .boolean (own_j3_5_0 (own_j4_2_0 i2 i3) i1))), .val (.int (nar .boolean (own_j3_5_0 (own_j5_2_0 i2 i3) i1)))] [(.int (1 : Int32))])) t → Steps p.tables e below (s₁.setTop (entryFrame m #[(.int i1), (.int i2), (.int i3)] maxLocals)) t := by
        intro t k
        refine pre27 _ ?_
        show Steps p.tables e below (T23.setTop (mkF m 77 #[.val (.int i1), .val (.int i2), .val (.int i3), .val (.ref b1), .val (.int (own_j4_2_0 i2 i3)), .val (.int (own_j5_2_0 i2 i3)), .val (.int (nar .boolean (own_j3_5_0 (own_j4_2_0 i2 i3) i1))), .val (.int (nar .boolean (own_j3_5_0 (own_j5_2_0 i2 i3) i1)))] [(.int (nar .boolean (own_j3_5_0 (own_j5_2_0 i2 i3) i1)))])) _
        refine XS.ifYes X23.here hx rfl (pc0 := 77) (pc' := 82) rfl (hb hby at_77) rfl ((if0 _ _).trans (feq hc77_28).2) (by decide) (by decide) ?_
        show Steps p.tables e below (T23.setTop (mkF m 82 #[.val (.int i1), .val (.int i2), .val (.int i3), .val (.ref b1), .val (.int (own_j4_2_0 i2 i3)), .val (.int (own_j5_2_0 i2 i3)), .val (.int (nar .boolean (own_j3_5_0 (own_j4_2_0 i2 i3) i1))), .val (.int (nar .boolean (own_j3_5_0 (own_j5_2_0 i2 i3) i1)))] [])) _
        refine XS.iconst X23.here hx rfl (hb hby at_82) ?_
        exact k
      obtain ⟨fs, hr, hrun, hended, hRW⟩ := Stand.leaveW (s := s) (vm₁ := T3.vm) (show Stand p l e room_1 (s.setVm T3.vm) m #[(.int i1), (.int i2), (.int i3)] below meth c T23 _ _ _ from X23) S3 (by rw [e23]; exact Nat.le_trans kk3 Kq9.1) (v := some (.int (1 : Int32))) (fun h => by rw [Bd.returns] at h; cases h)
      refine ⟨_, _, pre30 _ ?_, hrun, hended, _, _, rfl, ?_, hRW.1, hRW.2.1, hRW.2.2.1, hRW.2.2.2.mono (by decide) (by decide)⟩
      · show Steps p.tables e below (T23.setTop (mkF m 83 #[.val (.int i1), .val (.int i2), .val (.int i3), .val (.ref b1), .val (.int (own_j4_2_0 i2 i3)), .val (.int (own_j5_2_0 i2 i3)), .val (.int (nar .boolean (own_j3_5_0 (own_j4_2_0 i2 i3) i1))), .val (.int (nar .boolean (own_j3_5_0 (own_j5_2_0 i2 i3) i1)))] [(.int (1 : Int32))])) _
        exact retN X23 hx (t := .boolean) Bd.returns (by simp) (hb hby at_83) hr
      · show Q0 Z i1 i2 i3 h0 n0 _ T23.heap _
        rw [e23]
        exact ⟨congrArg (fun z => some (Value.int z)) (show (own_r0 i1 i2 i3) = (1 : Int32) from ((if_neg hc72_25).trans (if_neg hc77_28))).symm, N23⟩
theorem own_law (i1 : Int32) (i2 : Int32) (i3 : Int32) : (own_r0 i1 i2 i3) = 1 := by
  have hb : ∀ a c : Int32, nar .boolean (own_j3_5_0 a c) = 0 ↔ a.toInt < c.toInt := by
    intro a c
    rw [← Int32.lt_iff_toInt_lt]
    unfold own_j3_5_0
    by_cases q : a < c
    · rw [if_pos q]; exact ⟨fun _ => q, fun _ => rfl⟩
    · rw [if_neg q]; exact ⟨fun z => absurd z (by decide), fun z => absurd z q⟩
  unfold own_r0
  by_cases q1 : nar .boolean (own_j3_5_0 (own_j4_2_0 i2 i3) i1) = 0
  · rw [if_pos q1]
  · rw [if_neg q1]
    refine if_neg fun q2 => q1 ?_
    rw [hb] at q2 ⊢
    unfold own_j4_2_0
    unfold own_j5_2_0 at q2
    by_cases z1 : i3 < i2
    · rw [if_pos z1]
      by_cases z2 : i2 < i3
      · rw [if_pos z2] at q2; exact q2
      · rw [if_neg z2] at q2
        have := Int32.lt_iff_toInt_lt.mp z1
        omega
    · rw [if_neg z1]
      by_cases z2 : i2 < i3
      · rw [if_pos z2] at q2
        have := Int32.lt_iff_toInt_lt.mp z2
        omega
      · rw [if_neg z2] at q2; exact q2
set_option maxRecDepth 65536 in
set_option maxHeartbeats 40000000 in
theorem comes_1 {Post : Tables → Env → Array Value → State → Outcome → State → Prop} (hpost : ∀ tb e args s v u, (limb_1_1.after args s (.returned v) u = true ∧ limb_1_2.after args s (.returned v) u = true ∧ True) → ReturnedEndW s (.returned v) u (Jvm.fieldLocs frame_1_writes args s ++ Jvm.arrayLocs frame_1_arrays args s ++ Jvm.staticLocs frame_1_statics s) 16 1152 → Post tb e args s (.returned v) u) :
    ArmFor flags0 classFile x code maxLocals ret World_1 tables_1 room_1 Calls_1 rest_1 Pre_1 Post := by
  intro l hfl _ _ p e ha hc hk s m args below hf hA hF happ hP
  obtain ⟨hcalls, hrest, hpre⟩ := hP
  obtain ⟨-, -, -, hnamed, -, -, -, hat⟩ := (Spec.applies_iff hf).mp happ
  obtain ⟨hg, hn⟩ := and_e (Cond.before_iff.mp (show (Jvm.Cond.and given_1 narrow_1).before args s = true from hpre))
  obtain ⟨g1, g2⟩ := and_e hg
  obtain ⟨g3, g4⟩ := and_e g2
  obtain ⟨g5, g6⟩ := and_e g4
  obtain ⟨w0, w1, w2, rfl⟩ : ∃ w0 w1 w2 : Value, args = #[w0, w1, w2] := by
    have hs : args.size = 3 := by simpa [Cond.value, given_1] using g1
    obtain ⟨L⟩ := args
    match L, hs with
    | [w0, w1, w2], _ => exact ⟨w0, w1, w2, rfl⟩
  have hw := fun d (hd : d ∈ tables_1) => atoms_spec (ws := Jvm.Cond.code x code maxLocals ret :: tables_1) hat d (List.mem_cons_of_mem _ hd)
  have hfit : Fit s := fun {y c} hc i hi => by
    obtain ⟨ha, rfl⟩ := Array.getElem?_eq_some_iff.mp hc
    have q := List.all_eq_true.mp ((Array.all_eq_true_iff_forall_mem.mp hF) _ (Array.getElem_mem ha)) i (List.mem_range.mpr hi)
    simpa [Array.getElem?_eq_getElem hi] using q
  obtain ⟨i0, ei0⟩ := is_v g3
  obtain rfl : w0 = (.int i0) := Option.some.inj ei0
  obtain ⟨i1, ei1⟩ := is_v g5
  obtain rfl : w1 = (.int i1) := Option.some.inj ei1
  obtain ⟨i2, ei2⟩ := is_v g6
  obtain rfl : w2 = (.int i2) := Option.some.inj ei2
  obtain ⟨n, o, h1, h2, h3, _, L, rfl, ⟨hv, N⟩, hq⟩ := rm0 l s _ hw tables_1 i0 i1 i2 s.heap s.heap.size (Nat.le_refl _)  p e ha hc hk s m _ below hf ((Spec.applies_iff_loose hf).mp happ).1 ⟨rfl, State.Warmed39.refl s, rfl⟩ trivial
  rw [show (own_r0 i0 i1 i2) = 1 from own_law i0 i1 i2] at hv
  subst hv
  refine ⟨n, _, h1, h2, h3, hpost _ _ _ _ _ _ ⟨Cond.after_iff.mpr rfl, Cond.after_iff.mpr (eq_i res_at (Term.int_eval (1)) rfl), trivial⟩ ⟨hq.1, hq.2.1, hq.2.2.1, (hq.2.2.2.sift fun y hy => Or.inr (N y hy)).mono (by decide) (by decide)⟩⟩
theorem main_1_1 : Claimed_1_1 := comes_1 fun _ _ _ _ _ _ h hF => ⟨h.1, hF⟩
theorem main_1_2 : Claimed_1_2 := comes_1 fun _ _ _ _ _ _ h hF => ⟨h.2.1, hF⟩
end Jvm.Pilot.@@N@@
namespace Jvm.Pilot.@@N@@
open Jvm Jvm.ClassFile Sem Op Lib Jvm.Free Jvm.Stand Jvm.Pilot.@@N@@.Jvm.D
/-! MADE BY PROGRAM (witnessworld.py) out of the Statement's table words and the real class files: 15 classes; the members and pool entries that the words name. The judged class is class 1, her method 1. -/
namespace start1
open Jvm.ClassFile
def u (s : String) : CpInfo := .utf8 (stringToUtf16 s)
/-- a pool by its gaps: so many unusable entries, then the entry; so many at the end -/
def gap : Nat → List CpInfo → List CpInfo
  | 0, r => r
  | n + 1, r => .unusable :: gap n r
def poolList (es : List (Nat × CpInfo)) (last : Nat) : List CpInfo := es.foldr (fun e r => gap e.1 (e.2 :: r)) (gap last [])
def pool (es : List (Nat × CpInfo)) (last : Nat) : Array CpInfo := ⟨poolList es last⟩
def fileOf (pool : Array CpInfo) (this : Nat) (attrs : Array Attribute := #[]) (ms : Array MethodInfo := #[]) (fl : Nat := 33) (sup : Nat := 0) (ifs : Array Nat := #[]) (fds : Array FieldInfo := #[]) : ClassFile where
  minorVersion := 0
  majorVersion := 65
  constantPool := pool
  accessFlags := fl
  thisClass := this
  superClass := sup
  interfaces := ifs
  fields := fds
  methods := ms
  attributes := attrs
def plain (name : String) (sup : Option ClassId) : Class where
  name := name
  kind := .ordinary
  loader := none
  accessFlags := 33
  super := sup
  interfaces := #[]
  cf := none
  fields := #[]
  methods := #[]
  instanceTypes := #[]
  staticTypes := #[]
  resolved := #[]
  callSites := []
  init := .initialized
  statics := none
  mirror := none

def pool0 : Array CpInfo := pool [(5, u "<init>"), (0, u "()V"), (1, .class_ 10), (1, u "java/lang/Object")] 113

def k0c0 : Code := { maxStack := 0, maxLocals := 1, code := object_method_1_code, exceptionTable := #[], attributes := #[] }
def k0m0 : Method := { name := "<init>", desc := "()V", sig := { parameters := [], returnType := none }, accessFlags := 1, code := some k0c0 }
/-- java/lang/Object -/
def k0 : Class := { plain "java/lang/Object" none with
  accessFlags := 33
  interfaces := #[]
  cf := some (fileOf pool0 8 #[] #[{ accessFlags := 1, nameIndex := 5, descriptorIndex := 6, attributes := #[] }] 33 0 #[] #[])
  fields := #[]
  methods := #[k0m0]
  instanceTypes := #[]
  staticTypes := #[]
  resolved := Array.replicate 124 none
  statics := none }

def pool1 : Array CpInfo := pool [(2, .class_ 4), (1, u "java/lang/Object"), (0, u "<init>"), (0, u "()V"), (0, .class_ 8), (0, u "com/example/arpol/arpol/DutySet"), (0, .string 10), (0, u "s"), (0, .methodref 7 12), (0, .nameAndType 5 13), (0, u "(Ljava/lang/String;ILjava/util/Set;)V"), (0, .methodref 7 15), (0, .nameAndType 16 17), (0, u "brokenByCount"), (0, u "(I)Z"), (2, .integer 2147483648), (0, .methodref 22 23), (0, .class_ 24), (0, .nameAndType 25 26), (0, u "java/lang/Math"), (0, u "min"), (0, u "(II)I"), (0, .methodref 22 28), (0, .nameAndType 29 26), (0, u "max"), (0, .class_ 31), (0, u "com/example/arpol/arpol/DutySetBrokenByCountPinLaw"), (2, u "law"), (0, u "(III)Z")] 3

def k1m0 : Method := { name := "<init>", desc := "()V", sig := { parameters := [], returnType := none }, accessFlags := 1, code := none }
def k1c1 : Code := { maxStack := 5, maxLocals := 8, code := code, exceptionTable := #[], attributes := #[] }
def k1m1 : Method := { name := "law", desc := "(III)Z", sig := { parameters := [.int, .int, .int], returnType := some .boolean }, accessFlags := 9, code := some k1c1 }
/-- com/example/arpol/arpol/DutySetBrokenByCountPinLaw -/
def k1 : Class := { plain "com/example/arpol/arpol/DutySetBrokenByCountPinLaw" (some 0) with
  accessFlags := 49
  interfaces := #[]
  cf := some (fileOf pool1 30 #[] #[{ accessFlags := 1, nameIndex := 5, descriptorIndex := 6, attributes := #[] }, { accessFlags := 9, nameIndex := 34, descriptorIndex := 35, attributes := #[] }] 49 2 #[] #[])
  fields := #[]
  methods := #[k1m0, k1m1]
  instanceTypes := #[]
  staticTypes := #[]
  resolved := Array.replicate 39 none
  statics := none }

def pool2 : Array CpInfo := pool [(1, .methodref 2 3), (0, .class_ 4), (0, .nameAndType 5 6), (0, u "java/lang/Object"), (0, u "<init>"), (0, u "()V"), (0, .fieldref 8 9), (0, .class_ 10), (0, .nameAndType 11 12), (0, u "com/example/arpol/arpol/DutySet"), (0, u "name"), (0, u "Ljava/lang/String;"), (0, .fieldref 8 14), (0, .nameAndType 15 16), (0, u "cardinality"), (0, u "I"), (0, .fieldref 8 18), (0, .nameAndType 19 20), (0, u "roles"), (0, u "Ljava/util/Set;"), (46, u "brokenByCount"), (0, u "(I)Z"), (22, u "(Ljava/lang/String;ILjava/util/Set;)V")] 31

def k2c0 : Code := { maxStack := 2, maxLocals := 4, code := prog_4_method_1_code, exceptionTable := #[], attributes := #[] }
def k2m0 : Method := { name := "<init>", desc := "(Ljava/lang/String;ILjava/util/Set;)V", sig := { parameters := [(.object "java/lang/String"), .int, (.object "java/util/Set")], returnType := none }, accessFlags := 0, code := some k2c0 }
def k2c1 : Code := { maxStack := 2, maxLocals := 2, code := prog_4_method_6_code, exceptionTable := #[], attributes := #[] }
def k2m1 : Method := { name := "brokenByCount", desc := "(I)Z", sig := { parameters := [.int], returnType := some .boolean }, accessFlags := 0, code := some k2c1 }
/-- com/example/arpol/arpol/DutySet -/
def k2 : Class := { plain "com/example/arpol/arpol/DutySet" (some 0) with
  accessFlags := 32
  interfaces := #[]
  cf := some (fileOf pool2 8 #[] #[{ accessFlags := 0, nameIndex := 5, descriptorIndex := 91, attributes := #[] }, { accessFlags := 0, nameIndex := 67, descriptorIndex := 68, attributes := #[] }] 32 2 #[] #[{ accessFlags := 18, nameIndex := 11, descriptorIndex := 12, attributes := #[] }, { accessFlags := 18, nameIndex := 15, descriptorIndex := 16, attributes := #[] }, { accessFlags := 18, nameIndex := 19, descriptorIndex := 20, attributes := #[] }])
  fields := #[{ name := "name", type := (.object "java/lang/String"), accessFlags := 18, slot := 0, constantValue := 0 }, { name := "cardinality", type := .int, accessFlags := 18, slot := 1, constantValue := 0 }, { name := "roles", type := (.object "java/util/Set"), accessFlags := 18, slot := 2, constantValue := 0 }]
  methods := #[k2m0, k2m1]
  instanceTypes := #[(.object "java/lang/String"), .int, (.object "java/util/Set")]
  staticTypes := #[]
  resolved := Array.replicate 123 none
  statics := none }

def pool3 : Array CpInfo := pool [(1, .class_ 2), (0, u "java/io/Serializable"), (0, .class_ 4), (0, u "java/lang/Object")] 2

/-- java/io/Serializable -/
def k3 : Class := { plain "java/io/Serializable" (some 0) with
  accessFlags := 1537
  interfaces := #[]
  cf := some (fileOf pool3 1 #[] #[] 1537 3 #[] #[])
  fields := #[]
  methods := #[]
  instanceTypes := #[]
  staticTypes := #[]
  resolved := Array.replicate 7 none
  statics := none }

def pool4 : Array CpInfo := pool [(1, .class_ 2), (0, u "java/lang/Comparable"), (0, .class_ 4), (0, u "java/lang/Object")] 7

/-- java/lang/Comparable -/
def k4 : Class := { plain "java/lang/Comparable" (some 0) with
  accessFlags := 1537
  interfaces := #[]
  cf := some (fileOf pool4 1 #[] #[] 1537 3 #[] #[])
  fields := #[]
  methods := #[]
  instanceTypes := #[]
  staticTypes := #[]
  resolved := Array.replicate 12 none
  statics := none }

def pool5 : Array CpInfo := pool [(2, .class_ 4), (1, u "java/lang/CharSequence"), (42, .class_ 48), (0, u "java/lang/CharSequence$1CodePointIterator"), (10, .class_ 60), (0, u "java/lang/CharSequence$1CharIterator"), (5, .class_ 67), (0, u "java/lang/Object")] 63

/-- java/lang/CharSequence -/
def k5 : Class := { plain "java/lang/CharSequence" (some 0) with
  accessFlags := 1537
  interfaces := #[]
  cf := some (fileOf pool5 2 #[.nestMembers #[47, 59]] #[] 1537 66 #[] #[])
  fields := #[]
  methods := #[]
  instanceTypes := #[]
  staticTypes := #[]
  resolved := Array.replicate 131 none
  statics := none }

def pool6 : Array CpInfo := pool [(1, .class_ 2), (0, u "java/lang/constant/Constable"), (0, .class_ 4), (0, u "java/lang/Object")] 6

/-- java/lang/constant/Constable -/
def k6 : Class := { plain "java/lang/constant/Constable" (some 0) with
  accessFlags := 1537
  interfaces := #[]
  cf := some (fileOf pool6 1 #[] #[] 1537 3 #[] #[])
  fields := #[]
  methods := #[]
  instanceTypes := #[]
  staticTypes := #[]
  resolved := Array.replicate 11 none
  statics := none }

def pool7 : Array CpInfo := pool [(1, .class_ 2), (0, u "java/lang/constant/ConstantDesc"), (0, .class_ 4), (0, u "java/lang/Object")] 32

/-- java/lang/constant/ConstantDesc -/
def k7 : Class := { plain "java/lang/constant/ConstantDesc" (some 0) with
  accessFlags := 1537
  interfaces := #[]
  cf := some (fileOf pool7 1 #[] #[] 1537 3 #[] #[])
  fields := #[]
  methods := #[]
  instanceTypes := #[]
  staticTypes := #[]
  resolved := Array.replicate 37 none
  statics := none }

def pool8 : Array CpInfo := pool [(2, .class_ 4), (1, u "java/lang/Object"), (0, u "<init>"), (0, u "()V"), (3, .class_ 12), (1, u "java/lang/String"), (0, u "value"), (0, u "[B"), (2, u "coder"), (0, u "B"), (2, u "hash"), (0, u "I"), (2, u "hashIsZero"), (0, u "Z"), (13, u "COMPACT_STRINGS"), (534, .class_ 576), (0, u "java/lang/CharSequence"), (22, u "CASE_INSENSITIVE_ORDER"), (0, u "Ljava/util/Comparator;"), (500, u "serialPersistentFields"), (0, u "[Ljava/io/ObjectStreamField;"), (0, .class_ 1104), (0, u "java/lang/String$CaseInsensitiveComparator"), (1, .class_ 1107), (0, u "java/io/Serializable"), (0, .class_ 1109), (0, u "java/lang/Comparable"), (0, .class_ 1111), (0, u "java/lang/constant/Constable"), (0, .class_ 1113), (0, u "java/lang/constant/ConstantDesc"), (2, u "serialVersionUID"), (0, u "J"), (3, u "REPL"), (0, u "C"), (2, u "LATIN1"), (1, u "UTF16")] 323

def k8m0 : Method := { name := "<init>", desc := "()V", sig := { parameters := [], returnType := none }, accessFlags := 1, code := none }
/-- java/lang/String -/
def k8 : Class := { plain "java/lang/String" (some 0) with
  accessFlags := 49
  interfaces := #[3, 4, 5, 6, 7]
  cf := some (fileOf pool8 10 #[.nestMembers #[1103]] #[{ accessFlags := 1, nameIndex := 5, descriptorIndex := 6, attributes := #[] }] 49 2 #[1106, 1108, 575, 1110, 1112] #[{ accessFlags := 18, nameIndex := 13, descriptorIndex := 14, attributes := #[] }, { accessFlags := 18, nameIndex := 17, descriptorIndex := 18, attributes := #[] }, { accessFlags := 2, nameIndex := 21, descriptorIndex := 22, attributes := #[] }, { accessFlags := 2, nameIndex := 25, descriptorIndex := 26, attributes := #[] }, { accessFlags := 26, nameIndex := 1116, descriptorIndex := 1117, attributes := #[] }, { accessFlags := 24, nameIndex := 40, descriptorIndex := 26, attributes := #[] }, { accessFlags := 26, nameIndex := 1101, descriptorIndex := 1102, attributes := #[] }, { accessFlags := 26, nameIndex := 1121, descriptorIndex := 1122, attributes := #[] }, { accessFlags := 25, nameIndex := 599, descriptorIndex := 600, attributes := #[] }, { accessFlags := 24, nameIndex := 1125, descriptorIndex := 18, attributes := #[] }, { accessFlags := 24, nameIndex := 1127, descriptorIndex := 18, attributes := #[] }])
  fields := #[{ name := "value", type := (.array .byte), accessFlags := 18, slot := 0, constantValue := 0 }, { name := "coder", type := .byte, accessFlags := 18, slot := 1, constantValue := 0 }, { name := "hash", type := .int, accessFlags := 2, slot := 2, constantValue := 0 }, { name := "hashIsZero", type := .boolean, accessFlags := 2, slot := 3, constantValue := 0 }, { name := "serialVersionUID", type := .long, accessFlags := 26, slot := 0, constantValue := 0 }, { name := "COMPACT_STRINGS", type := .boolean, accessFlags := 24, slot := 1, constantValue := 0 }, { name := "serialPersistentFields", type := (.array (.object "java/io/ObjectStreamField")), accessFlags := 26, slot := 2, constantValue := 0 }, { name := "REPL", type := .char, accessFlags := 26, slot := 3, constantValue := 0 }, { name := "CASE_INSENSITIVE_ORDER", type := (.object "java/util/Comparator"), accessFlags := 25, slot := 4, constantValue := 0 }, { name := "LATIN1", type := .byte, accessFlags := 24, slot := 5, constantValue := 0 }, { name := "UTF16", type := .byte, accessFlags := 24, slot := 6, constantValue := 0 }]
  methods := #[k8m0]
  instanceTypes := #[(.array .byte), .byte, .int, .boolean]
  staticTypes := #[.long, .boolean, (.array (.object "java/io/ObjectStreamField")), .char, (.object "java/util/Comparator"), .byte, .byte]
  resolved := Array.replicate 1451 none
  statics := none }

def pool9 : Array CpInfo := pool [(1, .class_ 2), (0, u "java/lang/Math"), (1, .class_ 6), (1, u "java/lang/Object"), (0, u "<init>"), (0, u "()V"), (89, .class_ 100), (1, u "java/lang/Math$RandomNumberGeneratorHolder"), (71, u "negativeZeroFloatBits"), (0, u "J"), (2, u "negativeZeroDoubleBits"), (21, u "max"), (2, u "min"), (43, u "$assertionsDisabled"), (0, u "Z"), (88, u "(II)I"), (2, u "twoToTheDoubleScaleDown"), (0, u "D"), (4, u "twoToTheDoubleScaleUp"), (9, u "E"), (3, u "PI"), (2, u "TAU"), (2, u "DEGREES_TO_RADIANS"), (0, u "RADIANS_TO_DEGREES")] 94

def k9m0 : Method := { name := "<init>", desc := "()V", sig := { parameters := [], returnType := none }, accessFlags := 2, code := none }
def k9c1 : Code := { maxStack := 2, maxLocals := 2, code := jdk_29_method_65_code, exceptionTable := #[], attributes := #[] }
def k9m1 : Method := { name := "max", desc := "(II)I", sig := { parameters := [.int, .int], returnType := some .int }, accessFlags := 9, code := some k9c1 }
def k9c2 : Code := { maxStack := 2, maxLocals := 2, code := jdk_29_method_69_code, exceptionTable := #[], attributes := #[] }
def k9m2 : Method := { name := "min", desc := "(II)I", sig := { parameters := [.int, .int], returnType := some .int }, accessFlags := 9, code := some k9c2 }
/-- java/lang/Math -/
def k9 : Class := { plain "java/lang/Math" (some 0) with
  accessFlags := 49
  interfaces := #[]
  cf := some (fileOf pool9 1 #[.nestMembers #[98]] #[{ accessFlags := 2, nameIndex := 7, descriptorIndex := 8, attributes := #[] }, { accessFlags := 9, nameIndex := 198, descriptorIndex := 335, attributes := #[] }, { accessFlags := 9, nameIndex := 201, descriptorIndex := 335, attributes := #[] }] 49 4 #[] #[{ accessFlags := 25, nameIndex := 354, descriptorIndex := 339, attributes := #[] }, { accessFlags := 25, nameIndex := 358, descriptorIndex := 339, attributes := #[] }, { accessFlags := 25, nameIndex := 361, descriptorIndex := 339, attributes := #[] }, { accessFlags := 26, nameIndex := 364, descriptorIndex := 339, attributes := #[] }, { accessFlags := 26, nameIndex := 365, descriptorIndex := 339, attributes := #[] }, { accessFlags := 26, nameIndex := 172, descriptorIndex := 173, attributes := #[] }, { accessFlags := 26, nameIndex := 176, descriptorIndex := 173, attributes := #[] }, { accessFlags := 8, nameIndex := 344, descriptorIndex := 339, attributes := #[] }, { accessFlags := 8, nameIndex := 338, descriptorIndex := 339, attributes := #[] }, { accessFlags := 4120, nameIndex := 245, descriptorIndex := 246, attributes := #[] }])
  fields := #[{ name := "E", type := .double, accessFlags := 25, slot := 0, constantValue := 0 }, { name := "PI", type := .double, accessFlags := 25, slot := 1, constantValue := 0 }, { name := "TAU", type := .double, accessFlags := 25, slot := 2, constantValue := 0 }, { name := "DEGREES_TO_RADIANS", type := .double, accessFlags := 26, slot := 3, constantValue := 0 }, { name := "RADIANS_TO_DEGREES", type := .double, accessFlags := 26, slot := 4, constantValue := 0 }, { name := "negativeZeroFloatBits", type := .long, accessFlags := 26, slot := 5, constantValue := 0 }, { name := "negativeZeroDoubleBits", type := .long, accessFlags := 26, slot := 6, constantValue := 0 }, { name := "twoToTheDoubleScaleUp", type := .double, accessFlags := 8, slot := 7, constantValue := 0 }, { name := "twoToTheDoubleScaleDown", type := .double, accessFlags := 8, slot := 8, constantValue := 0 }, { name := "$assertionsDisabled", type := .boolean, accessFlags := 4120, slot := 9, constantValue := 0 }]
  methods := #[k9m0, k9m1, k9m2]
  instanceTypes := #[]
  staticTypes := #[.double, .double, .double, .double, .double, .long, .long, .double, .double, .boolean]
  resolved := Array.replicate 460 none
  statics := none }

def pool10 : Array CpInfo := pool [(1, u "java/lang/Cloneable"), (0, .class_ 1), (0, u "java/lang/Object"), (0, .class_ 3)] 3

/-- java/lang/Cloneable -/
def k10 : Class := { plain "java/lang/Cloneable" (some 0) with
  accessFlags := 1537
  interfaces := #[]
  cf := some (fileOf pool10 2 #[] #[] 1537 4 #[] #[])
  fields := #[]
  methods := #[]
  instanceTypes := #[]
  staticTypes := #[]
  resolved := Array.replicate 8 none
  statics := none }

/-- the primitive byte -/
def k11 : Class := { plain "byte" none with kind := .primitive 'B', accessFlags := 0x411 }
/-- [B -/
def k12 : Class := { plain "[B" (some 0) with kind := .array 11 .byte, interfaces := #[10, 3], accessFlags := 1041 }

/-- the primitive int -/
def k13 : Class := { plain "int" none with kind := .primitive 'I', accessFlags := 0x411 }
/-- [I -/
def k14 : Class := { plain "[I" (some 0) with kind := .array 13 .int, interfaces := #[10, 3], accessFlags := 1041 }

def heap : Heap := #[]
def classes : Array Class := #[k0, k1, k2, k3, k4, k5, k6, k7, k8, k9, k10, k11, k12, k13, k14]
def interned : List (Array UInt16 × Addr) := []
def slotsUsed : Nat := 0
def theMethod : MethodId := ⟨1, 1⟩
def args0 : Array Value := #[.int 5, .int 6, .int 7]
def aboutOver (below : List Frame) : State where
  vm := { classes := classes, interned := interned.toArray }
  heap := heap
  slotsUsed := slotsUsed
  threads := #[{ frames := .invoking theMethod args0 :: below }]
def below0 : List Frame := [.native { method := ⟨0, 0⟩, args := #[] }]
def about1 : State := aboutOver below0
def p0 : Program := .bare "" "" ""
def e0 : Env := launch0.env 0 0 0
theorem w_frames : about1.frames = Frame.invoking theMethod args0 :: below0 := rfl
set_option maxRecDepth 65536 in
theorem w_args : argsFit about1.vm theMethod args0 = true := by decide +kernel
set_option maxRecDepth 65536 in
theorem w_heap : heapFits about1 = true := by decide +kernel
set_option maxRecDepth 65536 in
theorem w_runnable : about1.curStatus? = some .runnable := by decide +kernel
set_option maxRecDepth 65536 in
theorem w_alone : about1.alone = true := by decide +kernel
set_option maxRecDepth 65536 in
theorem w_named : about1.methodNamed? x = some theMethod := by decide +kernel
set_option maxRecDepth 65536 in
theorem w_hears : about1.hears theMethod below0 = true := by decide +kernel
set_option maxRecDepth 65536 in
theorem w_ripe : about1.ripe theMethod args0 below0 = true := by decide +kernel
theorem w_running : about1.status = .running := rfl
set_option maxRecDepth 65536 in
theorem w_room : about1.hasRoom e0.platform room_1 = true :=
  launch0.hasRoom_least _ room_1 (by decide +kernel) (by decide +kernel) (by decide +kernel) (by decide +kernel) (by decide +kernel) (by decide +kernel)
theorem allAtoms_all (ts : List Jvm.Cond) (a : Array Jvm.Value) (st : Jvm.State) : (allAtoms ts).before a st = ts.all (fun c => c.before a st) := by
  induction ts with
  | nil => rfl
  | cons c t ih =>
    show (Jvm.Cond.and c (allAtoms t)).before a st = _
    rw [Jvm.Cond.before_and, ih, List.all_cons]
def words1 : List Jvm.Cond := Jvm.Cond.code x code maxLocals ret :: tables_1
/-- a 'code' word, met by the world's own term for the bytes: nothing is compared byte by byte -/
theorem code_word {y : MethodName} {bytes : ByteArray} {mx : Nat} {rt : Option FieldType} {a : Array Value} {s : State} {m : MethodId} {meth : Method} {c : Code} (h1 : s.methodNamed? y = some m) (h2 : s.vm.method? m = some meth) (h3 : meth.code = some c) (h4 : c.code = bytes)
    (h5 : (c.maxLocals == mx && c.exceptionTable.isEmpty && decide (c.maxStack ≤ mostOperands) && decide (meth.sig.returnType = rt) && !meth.locks && decide (parseMethodDescriptor y.desc = some meth.sig)) = true) : (Jvm.Cond.code y bytes mx rt).before a s = true := by
  simp only [Bool.and_eq_true, beq_iff_eq, Bool.not_eq_true', decide_eq_true_eq] at h5
  obtain ⟨⟨⟨⟨⟨g1, g2⟩, g3⟩, g4⟩, g5⟩, g6⟩ := h5
  simp [Cond.before, Cond.holds, Cond.value, h1, h2, h3, h4, g1, g2, g3, g4, g5, g6]
def isCode : Jvm.Cond → Bool
  | .code _ _ _ _ => true
  | _ => false
theorem all_split {L : List Jvm.Cond} {P : Jvm.Cond → Bool} (h1 : L.all (fun c => isCode c || P c) = true) (h2 : ∀ c ∈ L.filter isCode, P c = true) : L.all P = true := by
  refine List.all_eq_true.mpr fun c hc => ?_
  have h := List.all_eq_true.mp h1 c hc
  rcases Bool.eq_false_or_eq_true (isCode c) with hi | hi
  · exact h2 c (List.mem_filter.mpr ⟨hc, hi⟩)
  · simpa [hi] using h
set_option maxRecDepth 65536 in
theorem w_c0 : (Jvm.Cond.code x code maxLocals ret).before args0 about1 = true := code_word (m := ⟨1, 1⟩) (meth := k1m1) (c := k1c1) (by decide +kernel) rfl rfl rfl (by decide +kernel)
set_option maxRecDepth 65536 in
theorem w_c1 : (Jvm.Cond.code ({ cls := "com/example/arpol/arpol/DutySet", name := "<init>", desc := "(Ljava/lang/String;ILjava/util/Set;)V" } : Jvm.MethodName) prog_4_method_1_code (4 : Nat) (Option.none : Option Jvm.ClassFile.FieldType)).before args0 about1 = true := code_word (m := ⟨2, 0⟩) (meth := k2m0) (c := k2c0) (by decide +kernel) rfl rfl rfl (by decide +kernel)
set_option maxRecDepth 65536 in
theorem w_c2 : (Jvm.Cond.code ({ cls := "java/lang/Object", name := "<init>", desc := "()V" } : Jvm.MethodName) object_method_1_code (1 : Nat) (Option.none : Option Jvm.ClassFile.FieldType)).before args0 about1 = true := code_word (m := ⟨0, 0⟩) (meth := k0m0) (c := k0c0) (by decide +kernel) rfl rfl rfl (by decide +kernel)
set_option maxRecDepth 65536 in
theorem w_c3 : (Jvm.Cond.code ({ cls := "com/example/arpol/arpol/DutySet", name := "brokenByCount", desc := "(I)Z" } : Jvm.MethodName) prog_4_method_6_code (2 : Nat) (Option.some Jvm.ClassFile.FieldType.boolean)).before args0 about1 = true := code_word (m := ⟨2, 1⟩) (meth := k2m1) (c := k2c1) (by decide +kernel) rfl rfl rfl (by decide +kernel)
set_option maxRecDepth 65536 in
theorem w_c4 : (Jvm.Cond.code ({ cls := "java/lang/Math", name := "min", desc := "(II)I" } : Jvm.MethodName) jdk_29_method_69_code (2 : Nat) (Option.some Jvm.ClassFile.FieldType.int)).before args0 about1 = true := code_word (m := ⟨9, 2⟩) (meth := k9m2) (c := k9c2) (by decide +kernel) rfl rfl rfl (by decide +kernel)
set_option maxRecDepth 65536 in
theorem w_c5 : (Jvm.Cond.code ({ cls := "java/lang/Math", name := "max", desc := "(II)I" } : Jvm.MethodName) jdk_29_method_65_code (2 : Nat) (Option.some Jvm.ClassFile.FieldType.int)).before args0 about1 = true := code_word (m := ⟨9, 1⟩) (meth := k9m1) (c := k9c1) (by decide +kernel) rfl rfl rfl (by decide +kernel)
def codes1 : List Jvm.Cond := [Jvm.Cond.code x code maxLocals ret, Jvm.Cond.code ({ cls := "com/example/arpol/arpol/DutySet", name := "<init>", desc := "(Ljava/lang/String;ILjava/util/Set;)V" } : Jvm.MethodName) prog_4_method_1_code (4 : Nat) (Option.none : Option Jvm.ClassFile.FieldType), Jvm.Cond.code ({ cls := "java/lang/Object", name := "<init>", desc := "()V" } : Jvm.MethodName) object_method_1_code (1 : Nat) (Option.none : Option Jvm.ClassFile.FieldType), Jvm.Cond.code ({ cls := "com/example/arpol/arpol/DutySet", name := "brokenByCount", desc := "(I)Z" } : Jvm.MethodName) prog_4_method_6_code (2 : Nat) (Option.some Jvm.ClassFile.FieldType.boolean), Jvm.Cond.code ({ cls := "java/lang/Math", name := "min", desc := "(II)I" } : Jvm.MethodName) jdk_29_method_69_code (2 : Nat) (Option.some Jvm.ClassFile.FieldType.int), Jvm.Cond.code ({ cls := "java/lang/Math", name := "max", desc := "(II)I" } : Jvm.MethodName) jdk_29_method_65_code (2 : Nat) (Option.some Jvm.ClassFile.FieldType.int)]
set_option maxRecDepth 65536 in
theorem codes_eq : words1.filter isCode = codes1 := rfl
theorem w_codes : ∀ c ∈ words1.filter isCode, c.before args0 about1 = true := by
  rw [codes_eq]
  intro c hc
  simp only [codes1, List.mem_cons, List.not_mem_nil, or_false] at hc
  rcases hc with rfl | rfl | rfl | rfl | rfl | rfl
  · exact w_c0
  · exact w_c1
  · exact w_c2
  · exact w_c3
  · exact w_c4
  · exact w_c5
set_option maxRecDepth 65536 in
theorem w_t1 : (words1.take 24).all (fun c => isCode c || c.before args0 about1) = true := by decide +kernel
set_option maxRecDepth 65536 in
theorem w_t2 : (words1.drop 24).all (fun c => isCode c || c.before args0 about1) = true := by decide +kernel
theorem w_tables : (allAtoms (Jvm.Cond.code x code maxLocals ret :: tables_1)).before args0 about1 = true := by
  rw [allAtoms_all]
  show words1.all (fun c => c.before args0 about1) = true
  refine all_split ?_ w_codes
  rw [← List.take_append_drop 24 words1, List.all_append, w_t1, w_t2]
  rfl
set_option maxRecDepth 65536 in
theorem w_case : (Jvm.Cond.and given_1 narrow_1).before args0 about1 = true := by decide +kernel
theorem w_applies : (headSpec (Jvm.Cond.code x code maxLocals ret :: tables_1) room_1).applies x e0.platform about1 = true :=
  (Spec.applies_iff w_frames).mpr ⟨w_running, w_runnable, w_alone, w_named, w_hears, w_ripe, w_room, w_tables⟩
theorem atStart : AtStart classFile x code maxLocals ret World_1 tables_1 room_1 Calls_1 rest_1 Pre_1 launch0 p0 e0 about1 theMethod args0 below0 :=
  ⟨lists_1, trivial, launch0.admits_env _ _ _, launch0.least_env, fairChoices_fair.cas, fairChoices_fair.clock, w_frames, w_args, w_heap, w_applies, trivial, trivial, w_case⟩
end start1
theorem witness_1 : WitnessClaimed_1 := ⟨start1.p0, start1.e0, start1.about1, start1.theMethod, start1.args0, start1.below0, start1.atStart⟩
end Jvm.Pilot.@@N@@
