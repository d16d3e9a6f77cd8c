import JvmDerived
import JvmDerived.Pilot.@@N@@Statement
import JvmDerived.Pilot.@@N@@Code
set_option linter.unusedVariables false
set_option linter.unusedSimpArgs false
namespace Jvm.RoadKit
open Sem ClassFile Op Lib Jvm.Stand Jvm.Free Jvm.LawKit
section New
variable {p : Program} {l : Launch} {e : Env} {R : Room} {s : State} {m : MethodId} {args : Array Value} {below : List Frame} {meth : Method} {c : Code} {T : State} {locs : List Loc} {cells slots : Nat}
theorem retI (X : Stand p l e R s m args below meth c T locs cells slots) (hx : p.tables.exec = Jvm.exec) {pc : Nat} {Ls : Array Slot} {z : Int32} {rest : List Value} (hret : meth.sig.returnType = some .int) (hd : decode c.code pc = .ok (.ireturn, 1)) {fs : List Frame}
    (hl : ∀ (f : JFrame) (acts : List Action), f.method = m → f.locked = none → f.entered = [] → (doReturn e (T.setTop f) acts (some (.int z))).1 = T.setFrames fs) : Steps p.tables e below (T.setTop (mkF m pc Ls (.int z :: rest))) (T.setFrames fs) := by
  have hm' : T.vm.method? m = some meth := X.method'
  have hn : narrow .int (.int z) = .int z := rfl
  show Steps p.tables e below (T.setTop { method := m, pc := pc, locals := Ls, stack := _ :: rest, locked := none }) _
  jvm_step X.here [X.here.top, hx, hd, hm', hret, hn]
  first | (intro acts; rw [hl _ acts rfl rfl rfl]) | rw [hl _ _ rfl rfl rfl]
  exact Steps.refl _
end New
end Jvm.RoadKit
namespace Jvm.Pilot.@@N@@
open Jvm Jvm.ClassFile Sem Op Lib Jvm.Free Jvm.Stand Jvm.LawKit Jvm.RoadKit Bundle Jvm.Pilot.@@N@@.Jvm.D
theorem d1_0 : decode prog_6_method_2_code 0 = .ok (.new 8, 3) := by decide +kernel
theorem d1_3 : decode prog_6_method_2_code 3 = .ok (.dup, 1) := by decide +kernel
theorem d1_4 : decode prog_6_method_2_code 4 = .ok (.iconst 1, 1) := by decide +kernel
theorem d1_5 : decode prog_6_method_2_code 5 = .ok (.lload_n 0, 1) := by decide +kernel
theorem d1_6 : decode prog_6_method_2_code 6 = .ok (.aconst_null, 1) := by decide +kernel
theorem d1_7 : decode prog_6_method_2_code 7 = .ok (.iconst 0, 1) := by decide +kernel
theorem d1_8 : decode prog_6_method_2_code 8 = .ok (.invokespecial 24, 3) := by decide +kernel
theorem d1_11 : decode prog_6_method_2_code 11 = .ok (.areturn, 1) := by decide +kernel
theorem d2_0 : decode prog_6_method_1_code 0 = .ok (.aload_n 0, 1) := by decide +kernel
theorem d2_1 : decode prog_6_method_1_code 1 = .ok (.invokespecial 1, 3) := by decide +kernel
theorem d2_4 : decode prog_6_method_1_code 4 = .ok (.aload_n 0, 1) := by decide +kernel
theorem d2_5 : decode prog_6_method_1_code 5 = .ok (.iload_n 1, 1) := by decide +kernel
theorem d2_6 : decode prog_6_method_1_code 6 = .ok (.putfield 7, 3) := by decide +kernel
theorem d2_9 : decode prog_6_method_1_code 9 = .ok (.aload_n 0, 1) := by decide +kernel
theorem d2_10 : decode prog_6_method_1_code 10 = .ok (.lload_n 2, 1) := by decide +kernel
theorem d2_11 : decode prog_6_method_1_code 11 = .ok (.putfield 13, 3) := by decide +kernel
theorem d2_14 : decode prog_6_method_1_code 14 = .ok (.aload_n 0, 1) := by decide +kernel
theorem d2_15 : decode prog_6_method_1_code 15 = .ok (.aload 4, 2) := by decide +kernel
theorem d2_17 : decode prog_6_method_1_code 17 = .ok (.putfield 17, 3) := by decide +kernel
theorem d2_20 : decode prog_6_method_1_code 20 = .ok (.aload_n 0, 1) := by decide +kernel
theorem d2_21 : decode prog_6_method_1_code 21 = .ok (.iload 5, 2) := by decide +kernel
theorem d2_23 : decode prog_6_method_1_code 23 = .ok (.putfield 21, 3) := by decide +kernel
theorem d2_26 : decode prog_6_method_1_code 26 = .ok (.return_, 1) := by decide +kernel
theorem d4_0 : decode prog_6_method_4_code 0 = .ok (.new 8, 3) := by decide +kernel
theorem d4_3 : decode prog_6_method_4_code 3 = .ok (.dup, 1) := by decide +kernel
theorem d4_4 : decode prog_6_method_4_code 4 = .ok (.iconst 0, 1) := by decide +kernel
theorem d4_5 : decode prog_6_method_4_code 5 = .ok (.lload_n 0, 1) := by decide +kernel
theorem d4_6 : decode prog_6_method_4_code 6 = .ok (.aconst_null, 1) := by decide +kernel
theorem d4_7 : decode prog_6_method_4_code 7 = .ok (.iconst 0, 1) := by decide +kernel
theorem d4_8 : decode prog_6_method_4_code 8 = .ok (.invokespecial 24, 3) := by decide +kernel
theorem d4_11 : decode prog_6_method_4_code 11 = .ok (.areturn, 1) := by decide +kernel
theorem d5_0 : decode prog_6_method_6_code 0 = .ok (.aload_n 0, 1) := by decide +kernel
theorem d5_1 : decode prog_6_method_6_code 1 = .ok (.getfield 7, 3) := by decide +kernel
theorem d5_4 : decode prog_6_method_6_code 4 = .ok (.ireturn, 1) := by decide +kernel
theorem d6_0 : decode prog_6_method_7_code 0 = .ok (.aload_n 0, 1) := by decide +kernel
theorem d6_1 : decode prog_6_method_7_code 1 = .ok (.getfield 13, 3) := by decide +kernel
theorem d6_4 : decode prog_6_method_7_code 4 = .ok (.lreturn, 1) := by decide +kernel
theorem d7_0 : decode prog_6_method_9_code 0 = .ok (.aload_n 0, 1) := by decide +kernel
theorem d7_1 : decode prog_6_method_9_code 1 = .ok (.getfield 7, 3) := by decide +kernel
theorem d7_4 : decode prog_6_method_9_code 4 = .ok (.ifCond .ne 14, 3) := by decide +kernel
theorem d7_7 : decode prog_6_method_9_code 7 = .ok (.aload_n 0, 1) := by decide +kernel
theorem d7_8 : decode prog_6_method_9_code 8 = .ok (.getfield 17, 3) := by decide +kernel
theorem d7_11 : decode prog_6_method_9_code 11 = .ok (.ifnonnull 7, 3) := by decide +kernel
theorem d7_14 : decode prog_6_method_9_code 14 = .ok (.iconst 1, 1) := by decide +kernel
theorem d7_15 : decode prog_6_method_9_code 15 = .ok (.goto 4, 3) := by decide +kernel
theorem d7_18 : decode prog_6_method_9_code 18 = .ok (.iconst 0, 1) := by decide +kernel
theorem d7_19 : decode prog_6_method_9_code 19 = .ok (.ireturn, 1) := by decide +kernel
theorem d8_0 : decode prog_6_method_10_code 0 = .ok (.aload_n 0, 1) := by decide +kernel
theorem d8_1 : decode prog_6_method_10_code 1 = .ok (.getfield 21, 3) := by decide +kernel
theorem d8_4 : decode prog_6_method_10_code 4 = .ok (.ireturn, 1) := by decide +kernel
theorem d9_0 : decode prog_6_method_11_code 0 = .ok (.aload_n 1, 1) := by decide +kernel
theorem d9_1 : decode prog_6_method_11_code 1 = .ok (.instanceof 8, 3) := by decide +kernel
theorem d9_4 : decode prog_6_method_11_code 4 = .ok (.ifCond .eq 60, 3) := by decide +kernel
theorem d9_7 : decode prog_6_method_11_code 7 = .ok (.aload_n 1, 1) := by decide +kernel
theorem d9_8 : decode prog_6_method_11_code 8 = .ok (.checkcast 8, 3) := by decide +kernel
theorem d9_11 : decode prog_6_method_11_code 11 = .ok (.astore_n 2, 1) := by decide +kernel
theorem d9_12 : decode prog_6_method_11_code 12 = .ok (.aload_n 0, 1) := by decide +kernel
theorem d9_13 : decode prog_6_method_11_code 13 = .ok (.getfield 7, 3) := by decide +kernel
theorem d9_16 : decode prog_6_method_11_code 16 = .ok (.aload_n 2, 1) := by decide +kernel
theorem d9_17 : decode prog_6_method_11_code 17 = .ok (.getfield 7, 3) := by decide +kernel
theorem d9_20 : decode prog_6_method_11_code 20 = .ok (.if_icmp .ne 44, 3) := by decide +kernel
theorem d9_23 : decode prog_6_method_11_code 23 = .ok (.aload_n 0, 1) := by decide +kernel
theorem d9_24 : decode prog_6_method_11_code 24 = .ok (.getfield 13, 3) := by decide +kernel
theorem d9_27 : decode prog_6_method_11_code 27 = .ok (.aload_n 2, 1) := by decide +kernel
theorem d9_28 : decode prog_6_method_11_code 28 = .ok (.getfield 13, 3) := by decide +kernel
theorem d9_31 : decode prog_6_method_11_code 31 = .ok (.lcmp, 1) := by decide +kernel
theorem d9_32 : decode prog_6_method_11_code 32 = .ok (.ifCond .ne 32, 3) := by decide +kernel
theorem d9_35 : decode prog_6_method_11_code 35 = .ok (.aload_n 0, 1) := by decide +kernel
theorem d9_36 : decode prog_6_method_11_code 36 = .ok (.getfield 17, 3) := by decide +kernel
theorem d9_39 : decode prog_6_method_11_code 39 = .ok (.aload_n 2, 1) := by decide +kernel
theorem d9_40 : decode prog_6_method_11_code 40 = .ok (.getfield 17, 3) := by decide +kernel
theorem d9_43 : decode prog_6_method_11_code 43 = .ok (.invokestatic 41, 3) := by decide +kernel
theorem d9_46 : decode prog_6_method_11_code 46 = .ok (.ifCond .eq 18, 3) := by decide +kernel
theorem d9_49 : decode prog_6_method_11_code 49 = .ok (.aload_n 0, 1) := by decide +kernel
theorem d9_50 : decode prog_6_method_11_code 50 = .ok (.getfield 21, 3) := by decide +kernel
theorem d9_53 : decode prog_6_method_11_code 53 = .ok (.aload_n 2, 1) := by decide +kernel
theorem d9_54 : decode prog_6_method_11_code 54 = .ok (.getfield 21, 3) := by decide +kernel
theorem d9_57 : decode prog_6_method_11_code 57 = .ok (.if_icmp .ne 7, 3) := by decide +kernel
theorem d9_60 : decode prog_6_method_11_code 60 = .ok (.iconst 1, 1) := by decide +kernel
theorem d9_61 : decode prog_6_method_11_code 61 = .ok (.goto 4, 3) := by decide +kernel
theorem d9_64 : decode prog_6_method_11_code 64 = .ok (.iconst 0, 1) := by decide +kernel
theorem d9_65 : decode prog_6_method_11_code 65 = .ok (.ireturn, 1) := by decide +kernel
theorem d10_0 : decode jdk_31_method_2_code 0 = .ok (.aload_n 0, 1) := by decide +kernel
theorem d10_1 : decode jdk_31_method_2_code 1 = .ok (.aload_n 1, 1) := by decide +kernel
theorem d10_2 : decode jdk_31_method_2_code 2 = .ok (.if_acmp .eq 15, 3) := by decide +kernel
theorem d10_17 : decode jdk_31_method_2_code 17 = .ok (.iconst 1, 1) := by decide +kernel
theorem d10_18 : decode jdk_31_method_2_code 18 = .ok (.goto 4, 3) := by decide +kernel
theorem d10_22 : decode jdk_31_method_2_code 22 = .ok (.ireturn, 1) := by decide +kernel
theorem pn_0 : plainName "com/example/refill/refill/Decision" = true := by first | (simp [plainName, overriddenIn]; done) | decide +kernel
theorem pn_1 : plainName "java/util/Objects" = true := by first | (simp [plainName, overriddenIn]; done) | decide +kernel
theorem pn_2 : plainName "com/example/refill/refill/DecisionAdmittedPinLaw" = true := by first | (simp [plainName, overriddenIn]; done) | decide +kernel
theorem pd_0 : parseMethodDescriptor "(ZJLjava/time/Duration;Z)V" = some ⟨[.boolean, .long, (.object "java/time/Duration"), .boolean], none⟩ := by decide +kernel
theorem pd_1 : parseMethodDescriptor "(J)Lcom/example/refill/refill/Decision;" = some ⟨[.long], some (.object "com/example/refill/refill/Decision")⟩ := by decide +kernel
theorem pd_2 : parseMethodDescriptor "()Z" = some ⟨[], some .boolean⟩ := by decide +kernel
theorem pd_3 : parseMethodDescriptor "()J" = some ⟨[], some .long⟩ := by decide +kernel
theorem pd_4 : parseMethodDescriptor "(Ljava/lang/Object;Ljava/lang/Object;)Z" = some ⟨[(.object "java/lang/Object"), (.object "java/lang/Object")], some .boolean⟩ := by decide +kernel
theorem pd_5 : parseMethodDescriptor "(Ljava/lang/Object;)Z" = some ⟨[(.object "java/lang/Object")], some .boolean⟩ := by decide +kernel
theorem own_nar1 {x : Int32} (h : x = 1) : nar .boolean x = 1 := by subst h; rfl
theorem own_n0 : nar .boolean (0 : Int32) = 0 := rfl
theorem own_n1 : nar .boolean (1 : Int32) = 1 := rfl
def Q2 (Z : State) (r0 : Addr) (i1 : Int32) (j2 : Int64) (i4 : Int32) (u_admitted_r0 : Value) (u_remainingTokens_r0 : Value) (u_waitTime_r0 : Value) (u_fallback_r0 : Value) (h0 : Heap) (n0 : Nat) (v : Option Value) (h : Heap) (L : List Loc) : Prop := v = none ∧ Fr n0 L ∧ Keep h0 h [r0] ∧ Exa Z h r0 "com/example/refill/refill/Decision" ∧ Fld Z h r0 "com/example/refill/refill/Decision" "admitted" "Z" (.int (nar .boolean i1)) ∧ Fld Z h r0 "com/example/refill/refill/Decision" "remainingTokens" "J" (.long j2) ∧ Fld Z h r0 "com/example/refill/refill/Decision" "waitTime" "Ljava/time/Duration;" .null ∧ Fld Z h r0 "com/example/refill/refill/Decision" "fallback" "Z" (.int (nar .boolean i4))
theorem ef_2 (m : MethodId) (x0 : Addr) (x1 : Int32) (x2 : Int64) (x4 : Int32) : entryFrame m #[(.ref x0), (.int x1), (.long x2), .null, (.int x4)] 6 = mkF m 0 #[.val (.ref x0), .val (.int x1), .val (.long x2), .second, .val .null, .val (.int x4)] [] := by first | (simp [entryFrame, mkF, argsToLocals, Value.category]; done) | rfl
set_option maxRecDepth 65536 in
set_option maxHeartbeats 40000000 in
theorem rm2 (l : Launch) (Z : State) (a0 : Array Value) (hw : ∀ d ∈ tables_1, d.before a0 Z = true) (ws : List Jvm.Cond) (r0 : Addr) (i1 : Int32) (j2 : Int64) (i4 : Int32) (u_admitted_r0 : Value) (u_remainingTokens_r0 : Value) (u_waitTime_r0 : Value) (u_fallback_r0 : Value) (h0 : Heap) (n0 : Nat) (Z0 : n0 ≤ h0.size) (E_r0 : Exa Z h0 r0 "com/example/refill/refill/Decision") (F_admitted_r0 : Fld Z h0 r0 "com/example/refill/refill/Decision" "admitted" "Z" u_admitted_r0) (g_r0 : n0 ≤ r0) (F_remainingTokens_r0 : Fld Z h0 r0 "com/example/refill/refill/Decision" "remainingTokens" "J" u_remainingTokens_r0) (F_waitTime_r0 : Fld Z h0 r0 "com/example/refill/refill/Decision" "waitTime" "Ljava/time/Duration;" u_waitTime_r0) (F_fallback_r0 : Fld Z h0 r0 "com/example/refill/refill/Decision" "fallback" "Z" u_fallback_r0) :
    MetFree l (⟨"com/example/refill/refill/Decision", "<init>", "(ZJLjava/time/Duration;Z)V"⟩ : MethodName) (head1 (Jvm.Cond.code (⟨"com/example/refill/refill/Decision", "<init>", "(ZJLjava/time/Duration;Z)V"⟩ : MethodName) prog_6_method_1_code 6 none :: ws) ({ frames := 1, cells := 0, slots := 0, locals := 12 } : Room)) (fun a U => a = #[(.ref r0), (.int i1), (.long j2), .null, (.int i4)] ∧ Z.Warmed39 U.vm ∧ U.heap = h0) (fun _ _ _ _ _ => True) (fun _ U o U' => ∃ v L, o = .returned v ∧ Q2 Z r0 i1 j2 i4 u_admitted_r0 u_remainingTokens_r0 u_waitTime_r0 u_fallback_r0 h0 n0 v U'.heap L ∧ FrameEnd U o U' L ({ frames := 1, cells := 0, slots := 0, locals := 12 } : Room).cells ({ frames := 1, cells := 0, slots := 0, locals := 12 } : Room).slots) := by
  refine MetFree.of_bodySF (plainFor_of_name pn_0) hisR ?_
  intro p e s m args below meth c s₁ Bd hml0 hP hK
  obtain ⟨rfl, hZ, hh⟩ := hP
  have hx := Bd.exec
  have hby := Bd.bytes
  have hml : c.maxLocals = 6 := hml0
  have hown : s.vm.findClass "com/example/refill/refill/Decision" = some m.cls := findClass_of_methodNamed Bd.named
  have hnm := (name_of_methodNamed Bd.named Bd.method).1
  have X0 : Stand p l e ({ frames := 1, cells := 0, slots := 0, locals := 12 } : Room) s m #[(.ref r0), (.int i1), (.long j2), .null, (.int i4)] below meth c s₁ [] 0 0 := Stand.of_body Bd
  have e0 : s₁.heap = h0 := by rw [← hh, Bd.state]; rfl
  have N0 := Fr.nil n0
  have pre0 : ∀ t, Steps p.tables e below (s₁.setTop (mkF m 0 #[.val (.ref r0), .val (.int i1), .val (.long j2), .second, .val .null, .val (.int i4)] [])) t → Steps p.tables e below (s₁.setTop (entryFrame m #[(.ref r0), (.int i1), (.long j2), .null, (.int i4)] 6)) t := fun t k => castTop (ef_2 m r0 i1 j2 i4) k
  obtain ⟨T1, X1, e1, st1⟩ := initO X0 hx hZ hown (hw _ (List.mem_of_getElem? (i := 9) rfl)) (hw _ (List.mem_of_getElem? (i := 10) rfl)) (hw _ (List.mem_of_getElem? (i := 11) rfl)) e0 (g := (mkF m 1 #[.val (.ref r0), .val (.int i1), .val (.long j2), .second, .val .null, .val (.int i4)] [(.ref r0)])) rfl (by rw [hml]; rfl) rfl (hb hby d2_1) (by decide) (W := 0) (by show 2 * 0 + _ ≤ _; exact Nat.le_of_eq rfl) (by decide)
  obtain ⟨T2, h2, X2, e2, W2, st2⟩ := putFN X1 hx hZ hown (hw _ (List.mem_of_getElem? (i := 12) rfl)) Via.refl e1 F_admitted_r0 E_r0 (Or.inr ⟨(hw _ (List.mem_of_getElem? (i := 13) rfl)), rfl, hnm⟩) (hw _ (List.mem_of_getElem? (i := 5) rfl)) (ty := .boolean) (v' := (.int (nar .boolean i1))) (by decide) rfl (fits_nar_bool _) (g := (mkF m 6 #[.val (.ref r0), .val (.int i1), .val (.long j2), .second, .val .null, .val (.int i4)] [(.int i1), (.ref r0)])) rfl rfl (hb hby d2_6)
  have N2 := Fr.snoc X2 N0 g_r0
  have K3 : Keep h0 h2 [r0] := (Keep.refl h0 [r0]).wr W2 (Or.inl (List.mem_of_getElem? (i := 0) rfl))
  have F2 := F_admitted_r0.same W2
  have f4 := (E_r0.wr W2)
  have f5 := (F_remainingTokens_r0.other W2 (Or.inr (slot_ne (Or.inr (hw _ (List.mem_of_getElem? (i := 15) rfl))) (Or.inr (hw _ (List.mem_of_getElem? (i := 13) rfl))) (by decide) (t := .long) (t' := .boolean) (by decide) (by decide))))
  obtain ⟨T6, h6, X6, e6, W6, st6⟩ := putF X2 hx hZ hown (host := "") (Or.inl (hw _ (List.mem_of_getElem? (i := 14) rfl))) Via.refl e2 f5 f4 (Or.inr ⟨(hw _ (List.mem_of_getElem? (i := 15) rfl)), rfl, hnm⟩) (hw _ (List.mem_of_getElem? (i := 5) rfl)) (ty := .long) (by decide) rfl rfl (g := (mkF m 11 #[.val (.ref r0), .val (.int i1), .val (.long j2), .second, .val .null, .val (.int i4)] [(.long j2), (.ref r0)])) rfl rfl (hb hby d2_11)
  have N6 := Fr.snoc X6 N2 g_r0
  have K7 : Keep h0 h6 [r0] := K3.wr W6 (Or.inl (List.mem_of_getElem? (i := 0) rfl))
  have F6 := f5.same W6
  have f8 := (f4.wr W6)
  have f9 := ((F_waitTime_r0.other W2 (Or.inr (slot_ne (Or.inr (hw _ (List.mem_of_getElem? (i := 17) rfl))) (Or.inr (hw _ (List.mem_of_getElem? (i := 13) rfl))) (by decide) (t := (.object "java/time/Duration")) (t' := .boolean) (by decide) (by decide)))).other W6 (Or.inr (slot_ne (Or.inr (hw _ (List.mem_of_getElem? (i := 17) rfl))) (Or.inr (hw _ (List.mem_of_getElem? (i := 15) rfl))) (by decide) (t := (.object "java/time/Duration")) (t' := .long) (by decide) (by decide))))
  obtain ⟨T10, h10, X10, e10, W10, st10⟩ := putF X6 hx hZ hown (host := "") (Or.inl (hw _ (List.mem_of_getElem? (i := 16) rfl))) Via.refl e6 f9 f8 (Or.inr ⟨(hw _ (List.mem_of_getElem? (i := 17) rfl)), rfl, hnm⟩) (hw _ (List.mem_of_getElem? (i := 5) rfl)) (ty := (.object "java/time/Duration")) (by decide) rfl rfl (g := (mkF m 17 #[.val (.ref r0), .val (.int i1), .val (.long j2), .second, .val .null, .val (.int i4)] [.null, (.ref r0)])) rfl rfl (hb hby d2_17)
  have N10 := Fr.snoc X10 N6 g_r0
  have K11 : Keep h0 h10 [r0] := K7.wr W10 (Or.inl (List.mem_of_getElem? (i := 0) rfl))
  have F10 := f9.same W10
  have f12 := (f8.wr W10)
  have f13 := (((F_fallback_r0.other W2 (Or.inr (slot_ne (Or.inr (hw _ (List.mem_of_getElem? (i := 19) rfl))) (Or.inr (hw _ (List.mem_of_getElem? (i := 13) rfl))) (by decide) (t := .boolean) (t' := .boolean) (by decide) (by decide)))).other W6 (Or.inr (slot_ne (Or.inr (hw _ (List.mem_of_getElem? (i := 19) rfl))) (Or.inr (hw _ (List.mem_of_getElem? (i := 15) rfl))) (by decide) (t := .boolean) (t' := .long) (by decide) (by decide)))).other W10 (Or.inr (slot_ne (Or.inr (hw _ (List.mem_of_getElem? (i := 19) rfl))) (Or.inr (hw _ (List.mem_of_getElem? (i := 17) rfl))) (by decide) (t := .boolean) (t' := (.object "java/time/Duration")) (by decide) (by decide))))
  obtain ⟨T14, h14, X14, e14, W14, st14⟩ := putFN X10 hx hZ hown (hw _ (List.mem_of_getElem? (i := 18) rfl)) Via.refl e10 f13 f12 (Or.inr ⟨(hw _ (List.mem_of_getElem? (i := 19) rfl)), rfl, hnm⟩) (hw _ (List.mem_of_getElem? (i := 5) rfl)) (ty := .boolean) (v' := (.int (nar .boolean i4))) (by decide) rfl (fits_nar_bool _) (g := (mkF m 23 #[.val (.ref r0), .val (.int i1), .val (.long j2), .second, .val .null, .val (.int i4)] [(.int i4), (.ref r0)])) rfl rfl (hb hby d2_23)
  have N14 := Fr.snoc X14 N10 g_r0
  have K15 : Keep h0 h14 [r0] := K11.wr W14 (Or.inl (List.mem_of_getElem? (i := 0) rfl))
  have F14 := f13.same W14
  have pre16 : ∀ t, Steps p.tables e below (T14.setTop (mkF m 26 #[.val (.ref r0), .val (.int i1), .val (.long j2), .second, .val .null, .val (.int i4)] [])) t → Steps p.tables e below (s₁.setTop (entryFrame m #[(.ref r0), (.int i1), (.long j2), .null, (.int i4)] 6)) t := by
    intro t k
    refine pre0 _ ?_
    show Steps p.tables e below (s₁.setTop (mkF m 0 #[.val (.ref r0), .val (.int i1), .val (.long j2), .second, .val .null, .val (.int i4)] [])) _
    refine XS.aloadN X0.here hx rfl (hb hby d2_0) rfl rfl ?_
    show Steps p.tables e below (s₁.setTop (mkF m 1 #[.val (.ref r0), .val (.int i1), .val (.long j2), .second, .val .null, .val (.int i4)] [(.ref r0)])) _
    refine st1 _ ?_
    show Steps p.tables e below (T1.setTop (mkF m 4 #[.val (.ref r0), .val (.int i1), .val (.long j2), .second, .val .null, .val (.int i4)] [])) _
    refine XS.aloadN X1.here hx rfl (hb hby d2_4) rfl rfl ?_
    show Steps p.tables e below (T1.setTop (mkF m 5 #[.val (.ref r0), .val (.int i1), .val (.long j2), .second, .val .null, .val (.int i4)] [(.ref r0)])) _
    refine XS.iloadN X1.here hx rfl (hb hby d2_5) rfl ?_
    show Steps p.tables e below (T1.setTop (mkF m 6 #[.val (.ref r0), .val (.int i1), .val (.long j2), .second, .val .null, .val (.int i4)] [(.int i1), (.ref r0)])) _
    refine st2 _ ?_
    show Steps p.tables e below (T2.setTop (mkF m 9 #[.val (.ref r0), .val (.int i1), .val (.long j2), .second, .val .null, .val (.int i4)] [])) _
    refine XS.aloadN X2.here hx rfl (hb hby d2_9) rfl rfl ?_
    show Steps p.tables e below (T2.setTop (mkF m 10 #[.val (.ref r0), .val (.int i1), .val (.long j2), .second, .val .null, .val (.int i4)] [(.ref r0)])) _
    refine XS.lloadN X2.here hx rfl (hb hby d2_10) rfl ?_
    show Steps p.tables e below (T2.setTop (mkF m 11 #[.val (.ref r0), .val (.int i1), .val (.long j2), .second, .val .null, .val (.int i4)] [(.long j2), (.ref r0)])) _
    refine st6 _ ?_
    show Steps p.tables e below (T6.setTop (mkF m 14 #[.val (.ref r0), .val (.int i1), .val (.long j2), .second, .val .null, .val (.int i4)] [])) _
    refine XS.aloadN X6.here hx rfl (hb hby d2_14) rfl rfl ?_
    show Steps p.tables e below (T6.setTop (mkF m 15 #[.val (.ref r0), .val (.int i1), .val (.long j2), .second, .val .null, .val (.int i4)] [(.ref r0)])) _
    refine XS.aload X6.here hx rfl (hb hby d2_15) rfl rfl ?_
    show Steps p.tables e below (T6.setTop (mkF m 17 #[.val (.ref r0), .val (.int i1), .val (.long j2), .second, .val .null, .val (.int i4)] [.null, (.ref r0)])) _
    refine st10 _ ?_
    show Steps p.tables e below (T10.setTop (mkF m 20 #[.val (.ref r0), .val (.int i1), .val (.long j2), .second, .val .null, .val (.int i4)] [])) _
    refine XS.aloadN X10.here hx rfl (hb hby d2_20) rfl rfl ?_
    show Steps p.tables e below (T10.setTop (mkF m 21 #[.val (.ref r0), .val (.int i1), .val (.long j2), .second, .val .null, .val (.int i4)] [(.ref r0)])) _
    refine XS.iload X10.here hx rfl (hb hby d2_21) rfl ?_
    show Steps p.tables e below (T10.setTop (mkF m 23 #[.val (.ref r0), .val (.int i1), .val (.long j2), .second, .val .null, .val (.int i4)] [(.int i4), (.ref r0)])) _
    refine st14 _ ?_
    exact k
  have f17 := (f12.wr W14)
  have f18 := (((F2.other W6 (Or.inr (slot_ne (Or.inr (hw _ (List.mem_of_getElem? (i := 13) rfl))) (Or.inr (hw _ (List.mem_of_getElem? (i := 15) rfl))) (by decide) (t := .boolean) (t' := .long) (by decide) (by decide)))).other W10 (Or.inr (slot_ne (Or.inr (hw _ (List.mem_of_getElem? (i := 13) rfl))) (Or.inr (hw _ (List.mem_of_getElem? (i := 17) rfl))) (by decide) (t := .boolean) (t' := (.object "java/time/Duration")) (by decide) (by decide)))).other W14 (Or.inr (slot_ne (Or.inr (hw _ (List.mem_of_getElem? (i := 13) rfl))) (Or.inr (hw _ (List.mem_of_getElem? (i := 19) rfl))) (by decide) (t := .boolean) (t' := .boolean) (by decide) (by decide))))
  have f19 := ((F6.other W10 (Or.inr (slot_ne (Or.inr (hw _ (List.mem_of_getElem? (i := 15) rfl))) (Or.inr (hw _ (List.mem_of_getElem? (i := 17) rfl))) (by decide) (t := .long) (t' := (.object "java/time/Duration")) (by decide) (by decide)))).other W14 (Or.inr (slot_ne (Or.inr (hw _ (List.mem_of_getElem? (i := 15) rfl))) (Or.inr (hw _ (List.mem_of_getElem? (i := 19) rfl))) (by decide) (t := .long) (t' := .boolean) (by decide) (by decide))))
  have f20 := (F10.other W14 (Or.inr (slot_ne (Or.inr (hw _ (List.mem_of_getElem? (i := 17) rfl))) (Or.inr (hw _ (List.mem_of_getElem? (i := 19) rfl))) (by decide) (t := (.object "java/time/Duration")) (t' := .boolean) (by decide) (by decide))))
  obtain ⟨fs, hr, hrun, hended, hW, hsame⟩ := X14.leave (v := none) (fun _ => rfl)
  refine ⟨_, _, pre16 _ ?_, hrun, hended, _, _, rfl, ?_, ⟨_, rfl⟩, hW, hsame.mono (by decide) (by decide)⟩
  · show Steps p.tables e below (T14.setTop (mkF m 26 #[.val (.ref r0), .val (.int i1), .val (.long j2), .second, .val .null, .val (.int i4)] [])) _
    exact X14.returnOut hx Bd.returns (hb hby d2_26) hr
  · show Q2 Z r0 i1 j2 i4 u_admitted_r0 u_remainingTokens_r0 u_waitTime_r0 u_fallback_r0 h0 n0 _ T14.heap _
    rw [e14]
    exact ⟨rfl, N14, K15, f17, f18, f19, f20, F14⟩
def Q1 (Z : State) (j1 : Int64) (h0 : Heap) (n0 : Nat) (v : Option Value) (h : Heap) (L : List Loc) : Prop := ∃ (b1 : Addr), v = some (.ref b1) ∧ Fr n0 L ∧ Keep h0 h [] ∧ h0.size ≤ b1 ∧ Exa Z h b1 "com/example/refill/refill/Decision" ∧ Fld Z h b1 "com/example/refill/refill/Decision" "admitted" "Z" (.int (nar .boolean (1 : Int32))) ∧ Fld Z h b1 "com/example/refill/refill/Decision" "remainingTokens" "J" (.long j1) ∧ Fld Z h b1 "com/example/refill/refill/Decision" "waitTime" "Ljava/time/Duration;" .null ∧ Fld Z h b1 "com/example/refill/refill/Decision" "fallback" "Z" (.int (nar .boolean (0 : Int32)))
theorem ef_1 (m : MethodId) (x0 : Int64) : entryFrame m #[(.long x0)] 2 = mkF m 0 #[.val (.long x0), .second] [] := by first | (simp [entryFrame, mkF, argsToLocals, Value.category]; done) | rfl
set_option maxRecDepth 65536 in
set_option maxHeartbeats 40000000 in
theorem rm1 (l : Launch) (Z : State) (a0 : Array Value) (hw : ∀ d ∈ tables_1, d.before a0 Z = true) (ws : List Jvm.Cond) (j1 : Int64) (h0 : Heap) (n0 : Nat) (Z0 : n0 ≤ h0.size) :
    MetFree l (⟨"com/example/refill/refill/Decision", "admitted", "(J)Lcom/example/refill/refill/Decision;"⟩ : MethodName) (head1 (Jvm.Cond.code (⟨"com/example/refill/refill/Decision", "admitted", "(J)Lcom/example/refill/refill/Decision;"⟩ : MethodName) prog_6_method_2_code 2 (some (.object "com/example/refill/refill/Decision")) :: ws) ({ frames := 2, cells := 1, slots := 4, locals := 30 } : Room)) (fun a U => a = #[(.long j1)] ∧ Z.Warmed39 U.vm ∧ U.heap = h0) (fun _ _ _ _ _ => True) (fun _ U o U' => ∃ v L, o = .returned v ∧ Q1 Z j1 h0 n0 v U'.heap L ∧ FrameEnd U o U' L ({ frames := 2, cells := 1, slots := 4, locals := 30 } : Room).cells ({ frames := 2, cells := 1, slots := 4, locals := 30 } : Room).slots) := by
  refine MetFree.of_bodySF (plainFor_of_name pn_0) hisR ?_
  intro p e s m args below meth c s₁ Bd hml0 hP hK
  obtain ⟨rfl, hZ, hh⟩ := hP
  have hx := Bd.exec
  have hby := Bd.bytes
  have hml : c.maxLocals = 2 := hml0
  have hown : s.vm.findClass "com/example/refill/refill/Decision" = some m.cls := findClass_of_methodNamed Bd.named
  have hnm := (name_of_methodNamed Bd.named Bd.method).1
  have X0 : Stand p l e ({ frames := 2, cells := 1, slots := 4, locals := 30 } : Room) s m #[(.long j1)] below meth c s₁ [] 0 0 := Stand.of_body Bd
  have e0 : s₁.heap = h0 := by rw [← hh, Bd.state]; rfl
  have N0 := Fr.nil n0
  have pre0 : ∀ t, Steps p.tables e below (s₁.setTop (mkF m 0 #[.val (.long j1), .second] [])) t → Steps p.tables e below (s₁.setTop (entryFrame m #[(.long j1)] 2)) t := fun t k => castTop (ef_1 m j1) k
  obtain ⟨T1, h1, X1, e1, E1, A1, D1, -, st1⟩ := newO X0 hx hZ hown (hw _ (List.mem_of_getElem? (i := 4) rfl)) (hw _ (List.mem_of_getElem? (i := 5) rfl)) (hw _ (List.mem_of_getElem? (i := 2) rfl)) e0 (g := (mkF m 0 #[.val (.long j1), .second] [])) rfl (hb hby d1_0) (by decide) (by decide)
  obtain ⟨b1, g1⟩ : ∃ z, z = h0.size := ⟨_, rfl⟩
  rw [← g1] at A1 D1 st1
  have sz_b1 : h0.size ≤ b1 := Nat.le_trans (Keep.refl h0 []).1 (Nat.le_of_eq g1.symm)
  have K2 : Keep h0 h1 [] := (Keep.refl h0 []).ext E1
  have Fadmitted_1 : Fld Z h1 b1 "com/example/refill/refill/Decision" "admitted" "Z" (.int (0 : Int32)) := D1 (Or.inr (hw _ (List.mem_of_getElem? (i := 13) rfl))) (ty := .boolean) (by decide)
  have FremainingTokens_1 : Fld Z h1 b1 "com/example/refill/refill/Decision" "remainingTokens" "J" (.long (0 : Int64)) := D1 (Or.inr (hw _ (List.mem_of_getElem? (i := 15) rfl))) (ty := .long) (by decide)
  have FwaitTime_1 : Fld Z h1 b1 "com/example/refill/refill/Decision" "waitTime" "Ljava/time/Duration;" .null := D1 (Or.inr (hw _ (List.mem_of_getElem? (i := 17) rfl))) (ty := (.object "java/time/Duration")) (by decide)
  have Ffallback_1 : Fld Z h1 b1 "com/example/refill/refill/Decision" "fallback" "Z" (.int (0 : Int32)) := D1 (Or.inr (hw _ (List.mem_of_getElem? (i := 19) rfl))) (ty := .boolean) (by decide)
  obtain ⟨_, _, ⟨T3, L3, k3, n3⟩, -, X3, ⟨Lc3, hQ3, l3, y3, z3⟩, st3⟩ := X1.specialBack hx (y := (⟨"com/example/refill/refill/Decision", "<init>", "(ZJLjava/time/Duration;Z)V"⟩ : MethodName)) rfl hown (mvT hZ (hw _ (List.mem_of_getElem? (i := 6) rfl))) (mvT hZ (hw _ (List.mem_of_getElem? (i := 7) rfl))) (mvT hZ (hw _ (List.mem_of_getElem? (i := 8) rfl))) (by decide) (backOf (W := 1) (rm2 l Z a0 hw [] b1 (1 : Int32) j1 (0 : Int32) (.int (0 : Int32)) (.long (0 : Int64)) (.null) (.int (0 : Int32)) h1 n0 (Nat.le_trans Z0 K2.1) A1 Fadmitted_1 (Nat.le_trans Z0 sz_b1) FremainingTokens_1 FwaitTime_1 Ffallback_1) hZ (hw _ (List.mem_of_getElem? (i := 8) rfl)) (hw _ (List.mem_of_getElem? (i := 2) rfl)) (by decide) (by decide)) (g := (mkF m 8 #[.val (.long j1), .second] [(.int (0 : Int32)), .null, (.long j1), (.int (1 : Int32)), (.ref b1), (.ref b1)])) rfl (by rw [hml]; rfl) (Steps.refl _) (a := b1) (argsL := [(.int (1 : Int32)), (.long j1), .null, (.int (0 : Int32))]) (rest := [(.ref b1)]) (lenOf pd_0 rfl) rfl (by show 2 * 0 + _ ≤ _; exact Nat.le_of_eq rfl) (hb hby d1_8) (fun _ _ => ⟨rfl, e1, (by decide : 1 + 0 ≤ _), (by decide : 4 + 0 ≤ _)⟩)
  dsimp only [Pt.U, Pt.locs, Pt.cells, Pt.slots] at X3 l3 y3 z3 st3 hQ3
  subst l3 y3 z3
  obtain ⟨rfl, Nq3, Kq3, f3_0, f3_1, f3_2, f3_3, f3_4⟩ := hQ3
  have K4 : Keep h0 T3.heap [] := K2.trans Kq3 (allS (Or.inr sz_b1) all0)
  have N3 := Fr.app N0 Nq3
  have pre5 : ∀ t, Steps p.tables e below (T3.setTop (mkF m 11 #[.val (.long j1), .second] [(.ref b1)])) t → Steps p.tables e below (s₁.setTop (entryFrame m #[(.long j1)] 2)) t := by
    intro t k
    refine pre0 _ ?_
    show Steps p.tables e below (s₁.setTop (mkF m 0 #[.val (.long j1), .second] [])) _
    refine st1 _ ?_
    show Steps p.tables e below (T1.setTop (mkF m 3 #[.val (.long j1), .second] [(.ref b1)])) _
    refine XS.dup X1.here hx rfl (hb hby d1_3) rfl rfl ?_
    show Steps p.tables e below (T1.setTop (mkF m 4 #[.val (.long j1), .second] [(.ref b1), (.ref b1)])) _
    refine XS.iconst X1.here hx rfl (hb hby d1_4) ?_
    show Steps p.tables e below (T1.setTop (mkF m 5 #[.val (.long j1), .second] [(.int (1 : Int32)), (.ref b1), (.ref b1)])) _
    refine XS.lloadN X1.here hx rfl (hb hby d1_5) rfl ?_
    show Steps p.tables e below (T1.setTop (mkF m 6 #[.val (.long j1), .second] [(.long j1), (.int (1 : Int32)), (.ref b1), (.ref b1)])) _
    refine XS.aconstNull X1.here hx rfl (hb hby d1_6) ?_
    show Steps p.tables e below (T1.setTop (mkF m 7 #[.val (.long j1), .second] [.null, (.long j1), (.int (1 : Int32)), (.ref b1), (.ref b1)])) _
    refine XS.iconst X1.here hx rfl (hb hby d1_7) ?_
    show Steps p.tables e below (T1.setTop (mkF m 8 #[.val (.long j1), .second] [(.int (0 : Int32)), .null, (.long j1), (.int (1 : Int32)), (.ref b1), (.ref b1)])) _
    refine st3.trans ?_
    exact k
  obtain ⟨fs, hr, hrun, hended, hW, hsame⟩ := X3.leave (v := some (.ref b1)) (fun h => by rw [Bd.returns] at h; cases h)
  refine ⟨_, _, pre5 _ ?_, hrun, hended, _, _, rfl, ?_, ⟨_, rfl⟩, hW, hsame.mono (by decide) (by decide)⟩
  · show Steps p.tables e below (T3.setTop (mkF m 11 #[.val (.long j1), .second] [(.ref b1)])) _
    jvm_step X3.here [X3.here.top, hx, (hb hby d1_11), X3.method', Bd.returns, Value.isRef, FieldType.isReference]
    first | (intro acts; rw [hr _ acts rfl rfl rfl]) | rw [hr _ _ rfl rfl rfl]
    exact Steps.refl _
  · show Q1 Z j1 h0 n0 _ T3.heap _
    exact ⟨b1, rfl, N3, K4, sz_b1, f3_0, f3_1, f3_2, f3_3, f3_4⟩
def Q4 (Z : State) (j1 : Int64) (h0 : Heap) (n0 : Nat) (v : Option Value) (h : Heap) (L : List Loc) : Prop := ∃ (b1 : Addr), v = some (.ref b1) ∧ Fr n0 L ∧ Keep h0 h [] ∧ h0.size ≤ b1 ∧ Exa Z h b1 "com/example/refill/refill/Decision" ∧ Fld Z h b1 "com/example/refill/refill/Decision" "admitted" "Z" (.int (nar .boolean (0 : Int32))) ∧ Fld Z h b1 "com/example/refill/refill/Decision" "remainingTokens" "J" (.long j1) ∧ Fld Z h b1 "com/example/refill/refill/Decision" "waitTime" "Ljava/time/Duration;" .null ∧ Fld Z h b1 "com/example/refill/refill/Decision" "fallback" "Z" (.int (nar .boolean (0 : Int32)))
theorem ef_4 (m : MethodId) (x0 : Int64) : entryFrame m #[(.long x0)] 2 = mkF m 0 #[.val (.long x0), .second] [] := by first | (simp [entryFrame, mkF, argsToLocals, Value.category]; done) | rfl
set_option maxRecDepth 65536 in
set_option maxHeartbeats 40000000 in
theorem rm4 (l : Launch) (Z : State) (a0 : Array Value) (hw : ∀ d ∈ tables_1, d.before a0 Z = true) (ws : List Jvm.Cond) (j1 : Int64) (h0 : Heap) (n0 : Nat) (Z0 : n0 ≤ h0.size) :
    MetFree l (⟨"com/example/refill/refill/Decision", "neverAdmissible", "(J)Lcom/example/refill/refill/Decision;"⟩ : MethodName) (head1 (Jvm.Cond.code (⟨"com/example/refill/refill/Decision", "neverAdmissible", "(J)Lcom/example/refill/refill/Decision;"⟩ : MethodName) prog_6_method_4_code 2 (some (.object "com/example/refill/refill/Decision")) :: ws) ({ frames := 2, cells := 1, slots := 4, locals := 30 } : Room)) (fun a U => a = #[(.long j1)] ∧ Z.Warmed39 U.vm ∧ U.heap = h0) (fun _ _ _ _ _ => True) (fun _ U o U' => ∃ v L, o = .returned v ∧ Q4 Z j1 h0 n0 v U'.heap L ∧ FrameEnd U o U' L ({ frames := 2, cells := 1, slots := 4, locals := 30 } : Room).cells ({ frames := 2, cells := 1, slots := 4, locals := 30 } : Room).slots) := by
  refine MetFree.of_bodySF (plainFor_of_name pn_0) hisR ?_
  intro p e s m args below meth c s₁ Bd hml0 hP hK
  obtain ⟨rfl, hZ, hh⟩ := hP
  have hx := Bd.exec
  have hby := Bd.bytes
  have hml : c.maxLocals = 2 := hml0
  have hown : s.vm.findClass "com/example/refill/refill/Decision" = some m.cls := findClass_of_methodNamed Bd.named
  have hnm := (name_of_methodNamed Bd.named Bd.method).1
  have X0 : Stand p l e ({ frames := 2, cells := 1, slots := 4, locals := 30 } : Room) s m #[(.long j1)] below meth c s₁ [] 0 0 := Stand.of_body Bd
  have e0 : s₁.heap = h0 := by rw [← hh, Bd.state]; rfl
  have N0 := Fr.nil n0
  have pre0 : ∀ t, Steps p.tables e below (s₁.setTop (mkF m 0 #[.val (.long j1), .second] [])) t → Steps p.tables e below (s₁.setTop (entryFrame m #[(.long j1)] 2)) t := fun t k => castTop (ef_4 m j1) k
  obtain ⟨T1, h1, X1, e1, E1, A1, D1, -, st1⟩ := newO X0 hx hZ hown (hw _ (List.mem_of_getElem? (i := 4) rfl)) (hw _ (List.mem_of_getElem? (i := 5) rfl)) (hw _ (List.mem_of_getElem? (i := 2) rfl)) e0 (g := (mkF m 0 #[.val (.long j1), .second] [])) rfl (hb hby d4_0) (by decide) (by decide)
  obtain ⟨b1, g1⟩ : ∃ z, z = h0.size := ⟨_, rfl⟩
  rw [← g1] at A1 D1 st1
  have sz_b1 : h0.size ≤ b1 := Nat.le_trans (Keep.refl h0 []).1 (Nat.le_of_eq g1.symm)
  have K2 : Keep h0 h1 [] := (Keep.refl h0 []).ext E1
  have Fadmitted_1 : Fld Z h1 b1 "com/example/refill/refill/Decision" "admitted" "Z" (.int (0 : Int32)) := D1 (Or.inr (hw _ (List.mem_of_getElem? (i := 13) rfl))) (ty := .boolean) (by decide)
  have FremainingTokens_1 : Fld Z h1 b1 "com/example/refill/refill/Decision" "remainingTokens" "J" (.long (0 : Int64)) := D1 (Or.inr (hw _ (List.mem_of_getElem? (i := 15) rfl))) (ty := .long) (by decide)
  have FwaitTime_1 : Fld Z h1 b1 "com/example/refill/refill/Decision" "waitTime" "Ljava/time/Duration;" .null := D1 (Or.inr (hw _ (List.mem_of_getElem? (i := 17) rfl))) (ty := (.object "java/time/Duration")) (by decide)
  have Ffallback_1 : Fld Z h1 b1 "com/example/refill/refill/Decision" "fallback" "Z" (.int (0 : Int32)) := D1 (Or.inr (hw _ (List.mem_of_getElem? (i := 19) rfl))) (ty := .boolean) (by decide)
  obtain ⟨_, _, ⟨T3, L3, k3, n3⟩, -, X3, ⟨Lc3, hQ3, l3, y3, z3⟩, st3⟩ := X1.specialBack hx (y := (⟨"com/example/refill/refill/Decision", "<init>", "(ZJLjava/time/Duration;Z)V"⟩ : MethodName)) rfl hown (mvT hZ (hw _ (List.mem_of_getElem? (i := 6) rfl))) (mvT hZ (hw _ (List.mem_of_getElem? (i := 7) rfl))) (mvT hZ (hw _ (List.mem_of_getElem? (i := 8) rfl))) (by decide) (backOf (W := 1) (rm2 l Z a0 hw [] b1 (0 : Int32) j1 (0 : Int32) (.int (0 : Int32)) (.long (0 : Int64)) (.null) (.int (0 : Int32)) h1 n0 (Nat.le_trans Z0 K2.1) A1 Fadmitted_1 (Nat.le_trans Z0 sz_b1) FremainingTokens_1 FwaitTime_1 Ffallback_1) hZ (hw _ (List.mem_of_getElem? (i := 8) rfl)) (hw _ (List.mem_of_getElem? (i := 2) rfl)) (by decide) (by decide)) (g := (mkF m 8 #[.val (.long j1), .second] [(.int (0 : Int32)), .null, (.long j1), (.int (0 : Int32)), (.ref b1), (.ref b1)])) rfl (by rw [hml]; rfl) (Steps.refl _) (a := b1) (argsL := [(.int (0 : Int32)), (.long j1), .null, (.int (0 : Int32))]) (rest := [(.ref b1)]) (lenOf pd_0 rfl) rfl (by show 2 * 0 + _ ≤ _; exact Nat.le_of_eq rfl) (hb hby d4_8) (fun _ _ => ⟨rfl, e1, (by decide : 1 + 0 ≤ _), (by decide : 4 + 0 ≤ _)⟩)
  dsimp only [Pt.U, Pt.locs, Pt.cells, Pt.slots] at X3 l3 y3 z3 st3 hQ3
  subst l3 y3 z3
  obtain ⟨rfl, Nq3, Kq3, f3_0, f3_1, f3_2, f3_3, f3_4⟩ := hQ3
  have K4 : Keep h0 T3.heap [] := K2.trans Kq3 (allS (Or.inr sz_b1) all0)
  have N3 := Fr.app N0 Nq3
  have pre5 : ∀ t, Steps p.tables e below (T3.setTop (mkF m 11 #[.val (.long j1), .second] [(.ref b1)])) t → Steps p.tables e below (s₁.setTop (entryFrame m #[(.long j1)] 2)) t := by
    intro t k
    refine pre0 _ ?_
    show Steps p.tables e below (s₁.setTop (mkF m 0 #[.val (.long j1), .second] [])) _
    refine st1 _ ?_
    show Steps p.tables e below (T1.setTop (mkF m 3 #[.val (.long j1), .second] [(.ref b1)])) _
    refine XS.dup X1.here hx rfl (hb hby d4_3) rfl rfl ?_
    show Steps p.tables e below (T1.setTop (mkF m 4 #[.val (.long j1), .second] [(.ref b1), (.ref b1)])) _
    refine XS.iconst X1.here hx rfl (hb hby d4_4) ?_
    show Steps p.tables e below (T1.setTop (mkF m 5 #[.val (.long j1), .second] [(.int (0 : Int32)), (.ref b1), (.ref b1)])) _
    refine XS.lloadN X1.here hx rfl (hb hby d4_5) rfl ?_
    show Steps p.tables e below (T1.setTop (mkF m 6 #[.val (.long j1), .second] [(.long j1), (.int (0 : Int32)), (.ref b1), (.ref b1)])) _
    refine XS.aconstNull X1.here hx rfl (hb hby d4_6) ?_
    show Steps p.tables e below (T1.setTop (mkF m 7 #[.val (.long j1), .second] [.null, (.long j1), (.int (0 : Int32)), (.ref b1), (.ref b1)])) _
    refine XS.iconst X1.here hx rfl (hb hby d4_7) ?_
    show Steps p.tables e below (T1.setTop (mkF m 8 #[.val (.long j1), .second] [(.int (0 : Int32)), .null, (.long j1), (.int (0 : Int32)), (.ref b1), (.ref b1)])) _
    refine st3.trans ?_
    exact k
  obtain ⟨fs, hr, hrun, hended, hW, hsame⟩ := X3.leave (v := some (.ref b1)) (fun h => by rw [Bd.returns] at h; cases h)
  refine ⟨_, _, pre5 _ ?_, hrun, hended, _, _, rfl, ?_, ⟨_, rfl⟩, hW, hsame.mono (by decide) (by decide)⟩
  · show Steps p.tables e below (T3.setTop (mkF m 11 #[.val (.long j1), .second] [(.ref b1)])) _
    jvm_step X3.here [X3.here.top, hx, (hb hby d4_11), X3.method', Bd.returns, Value.isRef, FieldType.isReference]
    first | (intro acts; rw [hr _ acts rfl rfl rfl]) | rw [hr _ _ rfl rfl rfl]
    exact Steps.refl _
  · show Q4 Z j1 h0 n0 _ T3.heap _
    exact ⟨b1, rfl, N3, K4, sz_b1, f3_0, f3_1, f3_2, f3_3, f3_4⟩
def Q5 (Z : State) (r0 : Addr) (w_admitted_r0 : Int32) (h0 : Heap) (n0 : Nat) (v : Option Value) (h : Heap) (L : List Loc) : Prop := v = some (.int (nar .boolean w_admitted_r0)) ∧ Fr n0 L ∧ h = h0
theorem ef_5 (m : MethodId) (x0 : Addr) : entryFrame m #[(.ref x0)] 1 = mkF m 0 #[.val (.ref x0)] [] := by first | (simp [entryFrame, mkF, argsToLocals, Value.category]; done) | rfl
set_option maxRecDepth 65536 in
set_option maxHeartbeats 40000000 in
theorem rm5 (l : Launch) (Z : State) (a0 : Array Value) (hw : ∀ d ∈ tables_1, d.before a0 Z = true) (ws : List Jvm.Cond) (r0 : Addr) (w_admitted_r0 : Int32) (h0 : Heap) (n0 : Nat) (Z0 : n0 ≤ h0.size) (F_admitted_r0 : Fld Z h0 r0 "com/example/refill/refill/Decision" "admitted" "Z" (.int w_admitted_r0)) :
    MetFree l (⟨"com/example/refill/refill/Decision", "isAdmitted", "()Z"⟩ : MethodName) (head1 (Jvm.Cond.code (⟨"com/example/refill/refill/Decision", "isAdmitted", "()Z"⟩ : MethodName) prog_6_method_6_code 1 (some .boolean) :: ws) ({ frames := 0, cells := 0, slots := 0, locals := 0 } : Room)) (fun a U => a = #[(.ref r0)] ∧ Z.Warmed39 U.vm ∧ U.heap = h0) (fun _ _ _ _ _ => True) (fun _ U o U' => ∃ v L, o = .returned v ∧ Q5 Z r0 w_admitted_r0 h0 n0 v U'.heap L ∧ FrameEnd U o U' L ({ frames := 0, cells := 0, slots := 0, locals := 0 } : Room).cells ({ frames := 0, cells := 0, slots := 0, locals := 0 } : Room).slots) := by
  refine MetFree.of_bodySF (plainFor_of_name pn_0) hisR ?_
  intro p e s m args below meth c s₁ Bd hml0 hP hK
  obtain ⟨rfl, hZ, hh⟩ := hP
  have hx := Bd.exec
  have hby := Bd.bytes
  have hml : c.maxLocals = 1 := hml0
  have hown : s.vm.findClass "com/example/refill/refill/Decision" = some m.cls := findClass_of_methodNamed Bd.named
  have hnm := (name_of_methodNamed Bd.named Bd.method).1
  have X0 : Stand p l e ({ frames := 0, cells := 0, slots := 0, locals := 0 } : Room) s m #[(.ref r0)] below meth c s₁ [] 0 0 := Stand.of_body Bd
  have e0 : s₁.heap = h0 := by rw [← hh, Bd.state]; rfl
  have N0 := Fr.nil n0
  have pre0 : ∀ t, Steps p.tables e below (s₁.setTop (mkF m 0 #[.val (.ref r0)] [])) t → Steps p.tables e below (s₁.setTop (entryFrame m #[(.ref r0)] 1)) t := fun t k => castTop (ef_5 m r0) k
  obtain ⟨T1, X1, e1, st1⟩ := getF X0 hx hZ hown (host := "") (Or.inl (hw _ (List.mem_of_getElem? (i := 12) rfl))) Via.refl e0 F_admitted_r0 (g := (mkF m 1 #[.val (.ref r0)] [(.ref r0)])) rfl rfl (hb hby d5_1)
  have pre2 : ∀ t, Steps p.tables e below (T1.setTop (mkF m 4 #[.val (.ref r0)] [(.int w_admitted_r0)])) t → Steps p.tables e below (s₁.setTop (entryFrame m #[(.ref r0)] 1)) t := by
    intro t k
    refine pre0 _ ?_
    show Steps p.tables e below (s₁.setTop (mkF m 0 #[.val (.ref r0)] [])) _
    refine XS.aloadN X0.here hx rfl (hb hby d5_0) rfl rfl ?_
    show Steps p.tables e below (s₁.setTop (mkF m 1 #[.val (.ref r0)] [(.ref r0)])) _
    refine st1 _ ?_
    exact k
  obtain ⟨fs, hr, hrun, hended, hW, hsame⟩ := X1.leave (v := some (.int (nar .boolean w_admitted_r0))) (fun h => by rw [Bd.returns] at h; cases h)
  refine ⟨_, _, pre2 _ ?_, hrun, hended, _, _, rfl, ?_, ⟨_, rfl⟩, hW, hsame.mono (by decide) (by decide)⟩
  · show Steps p.tables e below (T1.setTop (mkF m 4 #[.val (.ref r0)] [(.int w_admitted_r0)])) _
    exact retN X1 hx (t := .boolean) Bd.returns (by simp) (hb hby d5_4) hr
  · show Q5 Z r0 w_admitted_r0 h0 n0 _ T1.heap _
    rw [e1]
    exact ⟨rfl, N0, rfl⟩
def Q6 (Z : State) (r0 : Addr) (w_remainingTokens_r0 : Int64) (h0 : Heap) (n0 : Nat) (v : Option Value) (h : Heap) (L : List Loc) : Prop := v = some (.long w_remainingTokens_r0) ∧ Fr n0 L ∧ h = h0
theorem ef_6 (m : MethodId) (x0 : Addr) : entryFrame m #[(.ref x0)] 1 = mkF m 0 #[.val (.ref x0)] [] := by first | (simp [entryFrame, mkF, argsToLocals, Value.category]; done) | rfl
set_option maxRecDepth 65536 in
set_option maxHeartbeats 40000000 in
theorem rm6 (l : Launch) (Z : State) (a0 : Array Value) (hw : ∀ d ∈ tables_1, d.before a0 Z = true) (ws : List Jvm.Cond) (r0 : Addr) (w_remainingTokens_r0 : Int64) (h0 : Heap) (n0 : Nat) (Z0 : n0 ≤ h0.size) (F_remainingTokens_r0 : Fld Z h0 r0 "com/example/refill/refill/Decision" "remainingTokens" "J" (.long w_remainingTokens_r0)) :
    MetFree l (⟨"com/example/refill/refill/Decision", "remainingTokens", "()J"⟩ : MethodName) (head1 (Jvm.Cond.code (⟨"com/example/refill/refill/Decision", "remainingTokens", "()J"⟩ : MethodName) prog_6_method_7_code 1 (some .long) :: ws) ({ frames := 0, cells := 0, slots := 0, locals := 0 } : Room)) (fun a U => a = #[(.ref r0)] ∧ Z.Warmed39 U.vm ∧ U.heap = h0) (fun _ _ _ _ _ => True) (fun _ U o U' => ∃ v L, o = .returned v ∧ Q6 Z r0 w_remainingTokens_r0 h0 n0 v U'.heap L ∧ FrameEnd U o U' L ({ frames := 0, cells := 0, slots := 0, locals := 0 } : Room).cells ({ frames := 0, cells := 0, slots := 0, locals := 0 } : Room).slots) := by
  refine MetFree.of_bodySF (plainFor_of_name pn_0) hisR ?_
  intro p e s m args below meth c s₁ Bd hml0 hP hK
  obtain ⟨rfl, hZ, hh⟩ := hP
  have hx := Bd.exec
  have hby := Bd.bytes
  have hml : c.maxLocals = 1 := hml0
  have hown : s.vm.findClass "com/example/refill/refill/Decision" = some m.cls := findClass_of_methodNamed Bd.named
  have hnm := (name_of_methodNamed Bd.named Bd.method).1
  have X0 : Stand p l e ({ frames := 0, cells := 0, slots := 0, locals := 0 } : Room) s m #[(.ref r0)] below meth c s₁ [] 0 0 := Stand.of_body Bd
  have e0 : s₁.heap = h0 := by rw [← hh, Bd.state]; rfl
  have N0 := Fr.nil n0
  have pre0 : ∀ t, Steps p.tables e below (s₁.setTop (mkF m 0 #[.val (.ref r0)] [])) t → Steps p.tables e below (s₁.setTop (entryFrame m #[(.ref r0)] 1)) t := fun t k => castTop (ef_6 m r0) k
  obtain ⟨T1, X1, e1, st1⟩ := getF X0 hx hZ hown (host := "") (Or.inl (hw _ (List.mem_of_getElem? (i := 14) rfl))) Via.refl e0 F_remainingTokens_r0 (g := (mkF m 1 #[.val (.ref r0)] [(.ref r0)])) rfl rfl (hb hby d6_1)
  have pre2 : ∀ t, Steps p.tables e below (T1.setTop (mkF m 4 #[.val (.ref r0)] [(.long w_remainingTokens_r0)])) t → Steps p.tables e below (s₁.setTop (entryFrame m #[(.ref r0)] 1)) t := by
    intro t k
    refine pre0 _ ?_
    show Steps p.tables e below (s₁.setTop (mkF m 0 #[.val (.ref r0)] [])) _
    refine XS.aloadN X0.here hx rfl (hb hby d6_0) rfl rfl ?_
    show Steps p.tables e below (s₁.setTop (mkF m 1 #[.val (.ref r0)] [(.ref r0)])) _
    refine st1 _ ?_
    exact k
  obtain ⟨fs, hr, hrun, hended, hW, hsame⟩ := X1.leave (v := some (.long w_remainingTokens_r0)) (fun h => by rw [Bd.returns] at h; cases h)
  refine ⟨_, _, pre2 _ ?_, hrun, hended, _, _, rfl, ?_, ⟨_, rfl⟩, hW, hsame.mono (by decide) (by decide)⟩
  · show Steps p.tables e below (T1.setTop (mkF m 4 #[.val (.ref r0)] [(.long w_remainingTokens_r0)])) _
    jvm_step X1.here [X1.here.top, hx, (hb hby d6_4), X1.method', Bd.returns, narrow]
    first | (intro acts; rw [hr _ acts rfl rfl rfl]) | rw [hr _ _ rfl rfl rfl]
    exact Steps.refl _
  · show Q6 Z r0 w_remainingTokens_r0 h0 n0 _ T1.heap _
    rw [e1]
    exact ⟨rfl, N0, rfl⟩
def own_j7_4_0 (w_admitted_r0 : Int32) : Int32 := (if w_admitted_r0 = (0 : Int32) then (1 : Int32) else (0 : Int32))
def Q7 (Z : State) (r0 : Addr) (w_admitted_r0 : Int32) (h0 : Heap) (n0 : Nat) (v : Option Value) (h : Heap) (L : List Loc) : Prop := v = some (.int (nar .boolean (own_j7_4_0 w_admitted_r0))) ∧ Fr n0 L ∧ h = h0
theorem ef_7 (m : MethodId) (x0 : Addr) : entryFrame m #[(.ref x0)] 1 = mkF m 0 #[.val (.ref x0)] [] := by first | (simp [entryFrame, mkF, argsToLocals, Value.category]; done) | rfl
set_option maxRecDepth 65536 in
set_option maxHeartbeats 40000000 in
theorem rm7 (l : Launch) (Z : State) (a0 : Array Value) (hw : ∀ d ∈ tables_1, d.before a0 Z = true) (ws : List Jvm.Cond) (r0 : Addr) (w_admitted_r0 : Int32) (h0 : Heap) (n0 : Nat) (Z0 : n0 ≤ h0.size) (F_admitted_r0 : Fld Z h0 r0 "com/example/refill/refill/Decision" "admitted" "Z" (.int w_admitted_r0)) (F_waitTime_r0 : Fld Z h0 r0 "com/example/refill/refill/Decision" "waitTime" "Ljava/time/Duration;" .null) :
    MetFree l (⟨"com/example/refill/refill/Decision", "isNeverAdmissible", "()Z"⟩ : MethodName) (head1 (Jvm.Cond.code (⟨"com/example/refill/refill/Decision", "isNeverAdmissible", "()Z"⟩ : MethodName) prog_6_method_9_code 1 (some .boolean) :: ws) ({ frames := 0, cells := 0, slots := 0, locals := 0 } : Room)) (fun a U => a = #[(.ref r0)] ∧ Z.Warmed39 U.vm ∧ U.heap = h0) (fun _ _ _ _ _ => True) (fun _ U o U' => ∃ v L, o = .returned v ∧ Q7 Z r0 w_admitted_r0 h0 n0 v U'.heap L ∧ FrameEnd U o U' L ({ frames := 0, cells := 0, slots := 0, locals := 0 } : Room).cells ({ frames := 0, cells := 0, slots := 0, locals := 0 } : Room).slots) := by
  refine MetFree.of_bodySF (plainFor_of_name pn_0) hisR ?_
  intro p e s m args below meth c s₁ Bd hml0 hP hK
  obtain ⟨rfl, hZ, hh⟩ := hP
  have hx := Bd.exec
  have hby := Bd.bytes
  have hml : c.maxLocals = 1 := hml0
  have hown : s.vm.findClass "com/example/refill/refill/Decision" = some m.cls := findClass_of_methodNamed Bd.named
  have hnm := (name_of_methodNamed Bd.named Bd.method).1
  have X0 : Stand p l e ({ frames := 0, cells := 0, slots := 0, locals := 0 } : Room) s m #[(.ref r0)] below meth c s₁ [] 0 0 := Stand.of_body Bd
  have e0 : s₁.heap = h0 := by rw [← hh, Bd.state]; rfl
  have N0 := Fr.nil n0
  have pre0 : ∀ t, Steps p.tables e below (s₁.setTop (mkF m 0 #[.val (.ref r0)] [])) t → Steps p.tables e below (s₁.setTop (entryFrame m #[(.ref r0)] 1)) t := fun t k => castTop (ef_7 m r0) k
  obtain ⟨T1, X1, e1, st1⟩ := getF X0 hx hZ hown (host := "") (Or.inl (hw _ (List.mem_of_getElem? (i := 12) rfl))) Via.refl e0 F_admitted_r0 (g := (mkF m 1 #[.val (.ref r0)] [(.ref r0)])) rfl rfl (hb hby d7_1)
  have pre2 : ∀ t, Steps p.tables e below (T1.setTop (mkF m 4 #[.val (.ref r0)] [(.int w_admitted_r0)])) t → Steps p.tables e below (s₁.setTop (entryFrame m #[(.ref r0)] 1)) t := by
    intro t k
    refine pre0 _ ?_
    show Steps p.tables e below (s₁.setTop (mkF m 0 #[.val (.ref r0)] [])) _
    refine XS.aloadN X0.here hx rfl (hb hby d7_0) rfl rfl ?_
    show Steps p.tables e below (s₁.setTop (mkF m 1 #[.val (.ref r0)] [(.ref r0)])) _
    refine st1 _ ?_
    exact k
  obtain ⟨T7, Lq7, X7, N7, e7, pre7⟩ : ∃ (T' : State) (locs' : List Loc), Stand p l e ({ frames := 0, cells := 0, slots := 0, locals := 0 } : Room) s m #[(.ref r0)] below meth c T' locs' 0 0 ∧ Fr n0 locs' ∧ T'.heap = h0 ∧ ∀ t, Steps p.tables e below (T'.setTop (mkF m 19 #[.val (.ref r0)] [(.int (own_j7_4_0 w_admitted_r0))])) t → Steps p.tables e below (s₁.setTop (entryFrame m #[(.ref r0)] 1)) t := by
    by_cases hc4_3 : w_admitted_r0 = (0 : Int32)
    · obtain ⟨T4, X4, e4, st4⟩ := getF X1 hx hZ hown (host := "") (Or.inl (hw _ (List.mem_of_getElem? (i := 16) rfl))) Via.refl e1 F_waitTime_r0 (g := (mkF m 8 #[.val (.ref r0)] [(.ref r0)])) rfl rfl (hb hby d7_8)
      have pre5 : ∀ t, Steps p.tables e below (T4.setTop (mkF m 19 #[.val (.ref r0)] [(.int (1 : Int32))])) t → Steps p.tables e below (s₁.setTop (entryFrame m #[(.ref r0)] 1)) t := by
        intro t k
        refine pre2 _ ?_
        show Steps p.tables e below (T1.setTop (mkF m 4 #[.val (.ref r0)] [(.int w_admitted_r0)])) _
        refine XS.ifNo X1.here hx rfl (hb hby d7_4) rfl ((if0 _ _).trans (teq hc4_3).2) ?_
        show Steps p.tables e below (T1.setTop (mkF m 7 #[.val (.ref r0)] [])) _
        refine XS.aloadN X1.here hx rfl (hb hby d7_7) rfl rfl ?_
        show Steps p.tables e below (T1.setTop (mkF m 8 #[.val (.ref r0)] [(.ref r0)])) _
        refine st4 _ ?_
        show Steps p.tables e below (T4.setTop (mkF m 11 #[.val (.ref r0)] [.null])) _
        refine XS.ifnonnullNo X4.here hx rfl (hb hby d7_11) rfl ?_
        show Steps p.tables e below (T4.setTop (mkF m 14 #[.val (.ref r0)] [])) _
        refine XS.iconst X4.here hx rfl (hb hby d7_14) ?_
        show Steps p.tables e below (T4.setTop (mkF m 15 #[.val (.ref r0)] [(.int (1 : Int32))])) _
        refine XS.goto X4.here hx rfl (pc0 := 15) (pc' := 19) rfl (hb hby d7_15) (by decide) (by decide) ?_
        exact k
      exact ⟨T4, _, X4, N0, e4, fun t k => pre5 t (by rw [show (own_j7_4_0 w_admitted_r0) = (1 : Int32) from (if_pos hc4_3)] at k; exact k)⟩
    · have pre6 : ∀ t, Steps p.tables e below (T1.setTop (mkF m 19 #[.val (.ref r0)] [(.int (0 : Int32))])) t → Steps p.tables e below (s₁.setTop (entryFrame m #[(.ref r0)] 1)) t := by
        intro t k
        refine pre2 _ ?_
        show Steps p.tables e below (T1.setTop (mkF m 4 #[.val (.ref r0)] [(.int w_admitted_r0)])) _
        refine XS.ifYes X1.here hx rfl (pc0 := 4) (pc' := 18) rfl (hb hby d7_4) rfl ((if0 _ _).trans (feq hc4_3).2) (by decide) (by decide) ?_
        show Steps p.tables e below (T1.setTop (mkF m 18 #[.val (.ref r0)] [])) _
        refine XS.iconst X1.here hx rfl (hb hby d7_18) ?_
        exact k
      exact ⟨T1, _, X1, N0, e1, fun t k => pre6 t (by rw [show (own_j7_4_0 w_admitted_r0) = (0 : Int32) from (if_neg hc4_3)] at k; exact k)⟩
  obtain ⟨fs, hr, hrun, hended, hW, hsame⟩ := X7.leave (v := some (.int (nar .boolean (own_j7_4_0 w_admitted_r0)))) (fun h => by rw [Bd.returns] at h; cases h)
  refine ⟨_, _, pre7 _ ?_, hrun, hended, _, _, rfl, ?_, ⟨_, rfl⟩, hW, hsame.mono (by decide) (by decide)⟩
  · show Steps p.tables e below (T7.setTop (mkF m 19 #[.val (.ref r0)] [(.int (own_j7_4_0 w_admitted_r0))])) _
    exact retN X7 hx (t := .boolean) Bd.returns (by simp) (hb hby d7_19) hr
  · show Q7 Z r0 w_admitted_r0 h0 n0 _ T7.heap _
    rw [e7]
    exact ⟨rfl, N7, rfl⟩
def Q8 (Z : State) (r0 : Addr) (w_fallback_r0 : Int32) (h0 : Heap) (n0 : Nat) (v : Option Value) (h : Heap) (L : List Loc) : Prop := v = some (.int (nar .boolean w_fallback_r0)) ∧ Fr n0 L ∧ h = h0
theorem ef_8 (m : MethodId) (x0 : Addr) : entryFrame m #[(.ref x0)] 1 = mkF m 0 #[.val (.ref x0)] [] := by first | (simp [entryFrame, mkF, argsToLocals, Value.category]; done) | rfl
set_option maxRecDepth 65536 in
set_option maxHeartbeats 40000000 in
theorem rm8 (l : Launch) (Z : State) (a0 : Array Value) (hw : ∀ d ∈ tables_1, d.before a0 Z = true) (ws : List Jvm.Cond) (r0 : Addr) (w_fallback_r0 : Int32) (h0 : Heap) (n0 : Nat) (Z0 : n0 ≤ h0.size) (F_fallback_r0 : Fld Z h0 r0 "com/example/refill/refill/Decision" "fallback" "Z" (.int w_fallback_r0)) :
    MetFree l (⟨"com/example/refill/refill/Decision", "isFallback", "()Z"⟩ : MethodName) (head1 (Jvm.Cond.code (⟨"com/example/refill/refill/Decision", "isFallback", "()Z"⟩ : MethodName) prog_6_method_10_code 1 (some .boolean) :: ws) ({ frames := 0, cells := 0, slots := 0, locals := 0 } : Room)) (fun a U => a = #[(.ref r0)] ∧ Z.Warmed39 U.vm ∧ U.heap = h0) (fun _ _ _ _ _ => True) (fun _ U o U' => ∃ v L, o = .returned v ∧ Q8 Z r0 w_fallback_r0 h0 n0 v U'.heap L ∧ FrameEnd U o U' L ({ frames := 0, cells := 0, slots := 0, locals := 0 } : Room).cells ({ frames := 0, cells := 0, slots := 0, locals := 0 } : Room).slots) := by
  refine MetFree.of_bodySF (plainFor_of_name pn_0) hisR ?_
  intro p e s m args below meth c s₁ Bd hml0 hP hK
  obtain ⟨rfl, hZ, hh⟩ := hP
  have hx := Bd.exec
  have hby := Bd.bytes
  have hml : c.maxLocals = 1 := hml0
  have hown : s.vm.findClass "com/example/refill/refill/Decision" = some m.cls := findClass_of_methodNamed Bd.named
  have hnm := (name_of_methodNamed Bd.named Bd.method).1
  have X0 : Stand p l e ({ frames := 0, cells := 0, slots := 0, locals := 0 } : Room) s m #[(.ref r0)] below meth c s₁ [] 0 0 := Stand.of_body Bd
  have e0 : s₁.heap = h0 := by rw [← hh, Bd.state]; rfl
  have N0 := Fr.nil n0
  have pre0 : ∀ t, Steps p.tables e below (s₁.setTop (mkF m 0 #[.val (.ref r0)] [])) t → Steps p.tables e below (s₁.setTop (entryFrame m #[(.ref r0)] 1)) t := fun t k => castTop (ef_8 m r0) k
  obtain ⟨T1, X1, e1, st1⟩ := getF X0 hx hZ hown (host := "") (Or.inl (hw _ (List.mem_of_getElem? (i := 18) rfl))) Via.refl e0 F_fallback_r0 (g := (mkF m 1 #[.val (.ref r0)] [(.ref r0)])) rfl rfl (hb hby d8_1)
  have pre2 : ∀ t, Steps p.tables e below (T1.setTop (mkF m 4 #[.val (.ref r0)] [(.int w_fallback_r0)])) t → Steps p.tables e below (s₁.setTop (entryFrame m #[(.ref r0)] 1)) t := by
    intro t k
    refine pre0 _ ?_
    show Steps p.tables e below (s₁.setTop (mkF m 0 #[.val (.ref r0)] [])) _
    refine XS.aloadN X0.here hx rfl (hb hby d8_0) rfl rfl ?_
    show Steps p.tables e below (s₁.setTop (mkF m 1 #[.val (.ref r0)] [(.ref r0)])) _
    refine st1 _ ?_
    exact k
  obtain ⟨fs, hr, hrun, hended, hW, hsame⟩ := X1.leave (v := some (.int (nar .boolean w_fallback_r0))) (fun h => by rw [Bd.returns] at h; cases h)
  refine ⟨_, _, pre2 _ ?_, hrun, hended, _, _, rfl, ?_, ⟨_, rfl⟩, hW, hsame.mono (by decide) (by decide)⟩
  · show Steps p.tables e below (T1.setTop (mkF m 4 #[.val (.ref r0)] [(.int w_fallback_r0)])) _
    exact retN X1 hx (t := .boolean) Bd.returns (by simp) (hb hby d8_4) hr
  · show Q8 Z r0 w_fallback_r0 h0 n0 _ T1.heap _
    rw [e1]
    exact ⟨rfl, N0, rfl⟩
def Q10 (Z : State)  (h0 : Heap) (n0 : Nat) (v : Option Value) (h : Heap) (L : List Loc) : Prop := v = some (.int (1 : Int32)) ∧ Fr n0 L ∧ h = h0
theorem ef_10 (m : MethodId)  : entryFrame m #[.null, .null] 2 = mkF m 0 #[.val .null, .val .null] [] := by first | (simp [entryFrame, mkF, argsToLocals, Value.category]; done) | rfl
set_option maxRecDepth 65536 in
set_option maxHeartbeats 40000000 in
theorem rm10 (l : Launch) (Z : State) (a0 : Array Value) (hw : ∀ d ∈ tables_1, d.before a0 Z = true) (ws : List Jvm.Cond)  (h0 : Heap) (n0 : Nat) (Z0 : n0 ≤ h0.size) :
    MetFree l (⟨"java/util/Objects", "equals", "(Ljava/lang/Object;Ljava/lang/Object;)Z"⟩ : MethodName) (head1 (Jvm.Cond.code (⟨"java/util/Objects", "equals", "(Ljava/lang/Object;Ljava/lang/Object;)Z"⟩ : MethodName) jdk_31_method_2_code 2 (some .boolean) :: ws) ({ frames := 0, cells := 0, slots := 0, locals := 0 } : Room)) (fun a U => a = #[.null, .null] ∧ Z.Warmed39 U.vm ∧ U.heap = h0) (fun _ _ _ _ _ => True) (fun _ U o U' => ∃ v L, o = .returned v ∧ Q10 Z  h0 n0 v U'.heap L ∧ FrameEnd U o U' L ({ frames := 0, cells := 0, slots := 0, locals := 0 } : Room).cells ({ frames := 0, cells := 0, slots := 0, locals := 0 } : Room).slots) := by
  refine MetFree.of_bodySF (plainFor_of_name pn_1) hisR ?_
  intro p e s m args below meth c s₁ Bd hml0 hP hK
  obtain ⟨rfl, hZ, hh⟩ := hP
  have hx := Bd.exec
  have hby := Bd.bytes
  have hml : c.maxLocals = 2 := hml0
  have hown : s.vm.findClass "java/util/Objects" = some m.cls := findClass_of_methodNamed Bd.named
  have hnm := (name_of_methodNamed Bd.named Bd.method).1
  have X0 : Stand p l e ({ frames := 0, cells := 0, slots := 0, locals := 0 } : Room) s m #[.null, .null] below meth c s₁ [] 0 0 := Stand.of_body Bd
  have e0 : s₁.heap = h0 := by rw [← hh, Bd.state]; rfl
  have N0 := Fr.nil n0
  have pre0 : ∀ t, Steps p.tables e below (s₁.setTop (mkF m 0 #[.val .null, .val .null] [])) t → Steps p.tables e below (s₁.setTop (entryFrame m #[.null, .null] 2)) t := fun t k => castTop (ef_10 m ) k
  have pre1 : ∀ t, Steps p.tables e below (s₁.setTop (mkF m 22 #[.val .null, .val .null] [(.int (1 : Int32))])) t → Steps p.tables e below (s₁.setTop (entryFrame m #[.null, .null] 2)) t := by
    intro t k
    refine pre0 _ ?_
    show Steps p.tables e below (s₁.setTop (mkF m 0 #[.val .null, .val .null] [])) _
    refine XS.aloadN X0.here hx rfl (hb hby d10_0) rfl rfl ?_
    show Steps p.tables e below (s₁.setTop (mkF m 1 #[.val .null, .val .null] [.null])) _
    refine XS.aloadN X0.here hx rfl (hb hby d10_1) rfl rfl ?_
    show Steps p.tables e below (s₁.setTop (mkF m 2 #[.val .null, .val .null] [.null, .null])) _
    refine Jvm.RoadKit.acmp (g := (mkF m 2 #[.val .null, .val .null] [.null, .null])) X0 hx rfl rfl rfl (pc0 := 2) (pc' := 17) (same := true) rfl (hb hby d10_2) rfl (decide_eq_true rfl) (by decide) (by decide) ?_
    show Steps p.tables e below (s₁.setTop (mkF m 17 #[.val .null, .val .null] [])) _
    refine XS.iconst X0.here hx rfl (hb hby d10_17) ?_
    show Steps p.tables e below (s₁.setTop (mkF m 18 #[.val .null, .val .null] [(.int (1 : Int32))])) _
    refine XS.goto X0.here hx rfl (pc0 := 18) (pc' := 22) rfl (hb hby d10_18) (by decide) (by decide) ?_
    exact k
  obtain ⟨fs, hr, hrun, hended, hW, hsame⟩ := X0.leave (v := some (.int (1 : Int32))) (fun h => by rw [Bd.returns] at h; cases h)
  refine ⟨_, _, pre1 _ ?_, hrun, hended, _, _, rfl, ?_, ⟨_, rfl⟩, hW, hsame.mono (by decide) (by decide)⟩
  · show Steps p.tables e below (s₁.setTop (mkF m 22 #[.val .null, .val .null] [(.int (1 : Int32))])) _
    exact retN X0 hx (t := .boolean) Bd.returns (by simp) (hb hby d10_22) hr
  · show Q10 Z  h0 n0 _ s₁.heap _
    rw [e0]
    exact ⟨rfl, N0, rfl⟩
def own_j9_20_0 (w_admitted_r0 : Int32) (w_admitted_r1 : Int32) (w_remainingTokens_r0 : Int64) (w_remainingTokens_r1 : Int64) (w_fallback_r0 : Int32) (w_fallback_r1 : Int32) : Int32 := (if w_admitted_r0 = w_admitted_r1 then (if w_remainingTokens_r0 = w_remainingTokens_r1 then (if w_fallback_r0 = w_fallback_r1 then (1 : Int32) else (0 : Int32)) else (0 : Int32)) else (0 : Int32))
def Q9 (Z : State) (r0 : Addr) (r1 : Addr) (w_admitted_r0 : Int32) (w_admitted_r1 : Int32) (w_remainingTokens_r0 : Int64) (w_remainingTokens_r1 : Int64) (w_fallback_r0 : Int32) (w_fallback_r1 : Int32) (h0 : Heap) (n0 : Nat) (v : Option Value) (h : Heap) (L : List Loc) : Prop := v = some (.int (nar .boolean (own_j9_20_0 w_admitted_r0 w_admitted_r1 w_remainingTokens_r0 w_remainingTokens_r1 w_fallback_r0 w_fallback_r1))) ∧ Fr n0 L ∧ h = h0
theorem ef_9 (m : MethodId) (x0 : Addr) (x1 : Addr) : entryFrame m #[(.ref x0), (.ref x1)] 3 = mkF m 0 #[.val (.ref x0), .val (.ref x1), .unset] [] := by first | (simp [entryFrame, mkF, argsToLocals, Value.category]; done) | rfl
set_option maxRecDepth 65536 in
set_option maxHeartbeats 40000000 in
theorem rm9 (l : Launch) (Z : State) (a0 : Array Value) (hw : ∀ d ∈ tables_1, d.before a0 Z = true) (ws : List Jvm.Cond) (r0 : Addr) (r1 : Addr) (w_admitted_r0 : Int32) (w_admitted_r1 : Int32) (w_remainingTokens_r0 : Int64) (w_remainingTokens_r1 : Int64) (w_fallback_r0 : Int32) (w_fallback_r1 : Int32) (h0 : Heap) (n0 : Nat) (Z0 : n0 ≤ h0.size) (E_r1 : Exa Z h0 r1 "com/example/refill/refill/Decision") (F_admitted_r0 : Fld Z h0 r0 "com/example/refill/refill/Decision" "admitted" "Z" (.int w_admitted_r0)) (F_admitted_r1 : Fld Z h0 r1 "com/example/refill/refill/Decision" "admitted" "Z" (.int w_admitted_r1)) (F_remainingTokens_r0 : Fld Z h0 r0 "com/example/refill/refill/Decision" "remainingTokens" "J" (.long w_remainingTokens_r0)) (F_remainingTokens_r1 : Fld Z h0 r1 "com/example/refill/refill/Decision" "remainingTokens" "J" (.long w_remainingTokens_r1)) (F_waitTime_r0 : Fld Z h0 r0 "com/example/refill/refill/Decision" "waitTime" "Ljava/time/Duration;" .null) (F_waitTime_r1 : Fld Z h0 r1 "com/example/refill/refill/Decision" "waitTime" "Ljava/time/Duration;" .null) (F_fallback_r0 : Fld Z h0 r0 "com/example/refill/refill/Decision" "fallback" "Z" (.int w_fallback_r0)) (F_fallback_r1 : Fld Z h0 r1 "com/example/refill/refill/Decision" "fallback" "Z" (.int w_fallback_r1)) :
    MetFree l (⟨"com/example/refill/refill/Decision", "equals", "(Ljava/lang/Object;)Z"⟩ : MethodName) (head1 (Jvm.Cond.code (⟨"com/example/refill/refill/Decision", "equals", "(Ljava/lang/Object;)Z"⟩ : MethodName) prog_6_method_11_code 3 (some .boolean) :: ws) ({ frames := 1, cells := 0, slots := 0, locals := 13 } : Room)) (fun a U => a = #[(.ref r0), (.ref r1)] ∧ Z.Warmed39 U.vm ∧ U.heap = h0) (fun _ _ _ _ _ => True) (fun _ U o U' => ∃ v L, o = .returned v ∧ Q9 Z r0 r1 w_admitted_r0 w_admitted_r1 w_remainingTokens_r0 w_remainingTokens_r1 w_fallback_r0 w_fallback_r1 h0 n0 v U'.heap L ∧ FrameEnd U o U' L ({ frames := 1, cells := 0, slots := 0, locals := 13 } : Room).cells ({ frames := 1, cells := 0, slots := 0, locals := 13 } : Room).slots) := by
  refine MetFree.of_bodySF (plainFor_of_name pn_0) hisR ?_
  intro p e s m args below meth c s₁ Bd hml0 hP hK
  obtain ⟨rfl, hZ, hh⟩ := hP
  have hx := Bd.exec
  have hby := Bd.bytes
  have hml : c.maxLocals = 3 := hml0
  have hown : s.vm.findClass "com/example/refill/refill/Decision" = some m.cls := findClass_of_methodNamed Bd.named
  have hnm := (name_of_methodNamed Bd.named Bd.method).1
  have X0 : Stand p l e ({ frames := 1, cells := 0, slots := 0, locals := 13 } : Room) s m #[(.ref r0), (.ref r1)] below meth c s₁ [] 0 0 := Stand.of_body Bd
  have e0 : s₁.heap = h0 := by rw [← hh, Bd.state]; rfl
  have N0 := Fr.nil n0
  have pre0 : ∀ t, Steps p.tables e below (s₁.setTop (mkF m 0 #[.val (.ref r0), .val (.ref r1), .unset] [])) t → Steps p.tables e below (s₁.setTop (entryFrame m #[(.ref r0), (.ref r1)] 3)) t := fun t k => castTop (ef_9 m r0 r1) k
  obtain ⟨T1, X1, e1, st1⟩ := instY X0 hx hZ hown (hw _ (List.mem_of_getElem? (i := 4) rfl)) e0 (Ins.self E_r1) (g := (mkF m 1 #[.val (.ref r0), .val (.ref r1), .unset] [(.ref r1)])) rfl rfl (hb hby d9_1)
  obtain ⟨T2, X2, e2, st2⟩ := castY X1 hx hZ hown (hw _ (List.mem_of_getElem? (i := 4) rfl)) e1 (Ins.self E_r1) (g := (mkF m 8 #[.val (.ref r0), .val (.ref r1), .unset] [(.ref r1)])) rfl rfl (hb hby d9_8)
  obtain ⟨T3, X3, e3, st3⟩ := getF X2 hx hZ hown (host := "") (Or.inl (hw _ (List.mem_of_getElem? (i := 12) rfl))) Via.refl e2 F_admitted_r0 (g := (mkF m 13 #[.val (.ref r0), .val (.ref r1), .val (.ref r1)] [(.ref r0)])) rfl rfl (hb hby d9_13)
  obtain ⟨T4, X4, e4, st4⟩ := getF X3 hx hZ hown (host := "") (Or.inl (hw _ (List.mem_of_getElem? (i := 12) rfl))) Via.refl e3 F_admitted_r1 (g := (mkF m 17 #[.val (.ref r0), .val (.ref r1), .val (.ref r1)] [(.ref r1), (.int w_admitted_r0)])) rfl rfl (hb hby d9_17)
  have pre5 : ∀ t, Steps p.tables e below (T4.setTop (mkF m 20 #[.val (.ref r0), .val (.ref r1), .val (.ref r1)] [(.int w_admitted_r1), (.int w_admitted_r0)])) t → Steps p.tables e below (s₁.setTop (entryFrame m #[(.ref r0), (.ref r1)] 3)) t := by
    intro t k
    refine pre0 _ ?_
    show Steps p.tables e below (s₁.setTop (mkF m 0 #[.val (.ref r0), .val (.ref r1), .unset] [])) _
    refine XS.aloadN X0.here hx rfl (hb hby d9_0) rfl rfl ?_
    show Steps p.tables e below (s₁.setTop (mkF m 1 #[.val (.ref r0), .val (.ref r1), .unset] [(.ref r1)])) _
    refine st1 _ ?_
    show Steps p.tables e below (T1.setTop (mkF m 4 #[.val (.ref r0), .val (.ref r1), .unset] [(.int (1 : Int32))])) _
    refine XS.ifNo X1.here hx rfl (hb hby d9_4) rfl ((if0 _ _).trans (feq (by decide : ¬ ((1 : Int32) = (0 : Int32)))).1) ?_
    show Steps p.tables e below (T1.setTop (mkF m 7 #[.val (.ref r0), .val (.ref r1), .unset] [])) _
    refine XS.aloadN X1.here hx rfl (hb hby d9_7) rfl rfl ?_
    show Steps p.tables e below (T1.setTop (mkF m 8 #[.val (.ref r0), .val (.ref r1), .unset] [(.ref r1)])) _
    refine st2 _ ?_
    show Steps p.tables e below (T2.setTop (mkF m 11 #[.val (.ref r0), .val (.ref r1), .unset] [(.ref r1)])) _
    refine XS.astoreN X2.here hx rfl (hb hby d9_11) rfl rfl (l' := #[.val (.ref r0), .val (.ref r1), .val (.ref r1)]) rfl ?_
    show Steps p.tables e below (T2.setTop (mkF m 12 #[.val (.ref r0), .val (.ref r1), .val (.ref r1)] [])) _
    refine XS.aloadN X2.here hx rfl (hb hby d9_12) rfl rfl ?_
    show Steps p.tables e below (T2.setTop (mkF m 13 #[.val (.ref r0), .val (.ref r1), .val (.ref r1)] [(.ref r0)])) _
    refine st3 _ ?_
    show Steps p.tables e below (T3.setTop (mkF m 16 #[.val (.ref r0), .val (.ref r1), .val (.ref r1)] [(.int w_admitted_r0)])) _
    refine XS.aloadN X3.here hx rfl (hb hby d9_16) rfl rfl ?_
    show Steps p.tables e below (T3.setTop (mkF m 17 #[.val (.ref r0), .val (.ref r1), .val (.ref r1)] [(.ref r1), (.int w_admitted_r0)])) _
    refine st4 _ ?_
    exact k
  obtain ⟨T22, Lq22, X22, N22, e22, pre22⟩ : ∃ (T' : State) (locs' : List Loc), Stand p l e ({ frames := 1, cells := 0, slots := 0, locals := 13 } : Room) s m #[(.ref r0), (.ref r1)] below meth c T' locs' 0 0 ∧ Fr n0 locs' ∧ T'.heap = h0 ∧ ∀ t, Steps p.tables e below (T'.setTop (mkF m 65 #[.val (.ref r0), .val (.ref r1), .val (.ref r1)] [(.int (own_j9_20_0 w_admitted_r0 w_admitted_r1 w_remainingTokens_r0 w_remainingTokens_r1 w_fallback_r0 w_fallback_r1))])) t → Steps p.tables e below (s₁.setTop (entryFrame m #[(.ref r0), (.ref r1)] 3)) t := by
    by_cases hc20_6 : w_admitted_r0 = w_admitted_r1
    · obtain ⟨T7, X7, e7, st7⟩ := getF X4 hx hZ hown (host := "") (Or.inl (hw _ (List.mem_of_getElem? (i := 14) rfl))) Via.refl e4 F_remainingTokens_r0 (g := (mkF m 24 #[.val (.ref r0), .val (.ref r1), .val (.ref r1)] [(.ref r0)])) rfl rfl (hb hby d9_24)
      obtain ⟨T8, X8, e8, st8⟩ := getF X7 hx hZ hown (host := "") (Or.inl (hw _ (List.mem_of_getElem? (i := 14) rfl))) Via.refl e7 F_remainingTokens_r1 (g := (mkF m 28 #[.val (.ref r0), .val (.ref r1), .val (.ref r1)] [(.ref r1), (.long w_remainingTokens_r0)])) rfl rfl (hb hby d9_28)
      have pre9 : ∀ t, Steps p.tables e below (T8.setTop (mkF m 32 #[.val (.ref r0), .val (.ref r1), .val (.ref r1)] [(.int (lcmpW w_remainingTokens_r0 w_remainingTokens_r1))])) t → Steps p.tables e below (s₁.setTop (entryFrame m #[(.ref r0), (.ref r1)] 3)) t := by
        intro t k
        refine pre5 _ ?_
        show Steps p.tables e below (T4.setTop (mkF m 20 #[.val (.ref r0), .val (.ref r1), .val (.ref r1)] [(.int w_admitted_r1), (.int w_admitted_r0)])) _
        refine XS.icmpNo X4.here hx rfl (hb hby d9_20) rfl (teq hc20_6).2 ?_
        show Steps p.tables e below (T4.setTop (mkF m 23 #[.val (.ref r0), .val (.ref r1), .val (.ref r1)] [])) _
        refine XS.aloadN X4.here hx rfl (hb hby d9_23) rfl rfl ?_
        show Steps p.tables e below (T4.setTop (mkF m 24 #[.val (.ref r0), .val (.ref r1), .val (.ref r1)] [(.ref r0)])) _
        refine st7 _ ?_
        show Steps p.tables e below (T7.setTop (mkF m 27 #[.val (.ref r0), .val (.ref r1), .val (.ref r1)] [(.long w_remainingTokens_r0)])) _
        refine XS.aloadN X7.here hx rfl (hb hby d9_27) rfl rfl ?_
        show Steps p.tables e below (T7.setTop (mkF m 28 #[.val (.ref r0), .val (.ref r1), .val (.ref r1)] [(.ref r1), (.long w_remainingTokens_r0)])) _
        refine st8 _ ?_
        show Steps p.tables e below (T8.setTop (mkF m 31 #[.val (.ref r0), .val (.ref r1), .val (.ref r1)] [(.long w_remainingTokens_r1), (.long w_remainingTokens_r0)])) _
        refine XS.lcmp X8.here hx rfl (hb hby d9_31) rfl ?_
        exact k
      by_cases hc32_10 : w_remainingTokens_r0 = w_remainingTokens_r1
      · obtain ⟨T11, X11, e11, st11⟩ := getF X8 hx hZ hown (host := "") (Or.inl (hw _ (List.mem_of_getElem? (i := 16) rfl))) Via.refl e8 F_waitTime_r0 (g := (mkF m 36 #[.val (.ref r0), .val (.ref r1), .val (.ref r1)] [(.ref r0)])) rfl rfl (hb hby d9_36)
        obtain ⟨T12, X12, e12, st12⟩ := getF X11 hx hZ hown (host := "") (Or.inl (hw _ (List.mem_of_getElem? (i := 16) rfl))) Via.refl e11 F_waitTime_r1 (g := (mkF m 40 #[.val (.ref r0), .val (.ref r1), .val (.ref r1)] [(.ref r1), .null])) rfl rfl (hb hby d9_40)
        obtain ⟨_, _, ⟨T13, L13, k13, n13⟩, -, X13, ⟨Lc13, hQ13, l13, y13, z13⟩, st13⟩ := Jvm.LawKit.callS X12 hx (y := (⟨"java/util/Objects", "equals", "(Ljava/lang/Object;Ljava/lang/Object;)Z"⟩ : MethodName)) hown (mvT hZ (hw _ (List.mem_of_getElem? (i := 49) rfl))) (mvT hZ (hw _ (List.mem_of_getElem? (i := 50) rfl))) (mvT hZ (hw _ (List.mem_of_getElem? (i := 51) rfl))) (mvT hZ (hw _ (List.mem_of_getElem? (i := 52) rfl))) (by decide) (backOf (W := 0) (rm10 l Z a0 hw []  h0 n0 (Nat.le_trans Z0 (Keep.refl h0 []).1) ) hZ (hw _ (List.mem_of_getElem? (i := 52) rfl)) (hw _ (List.mem_of_getElem? (i := 51) rfl)) (by decide) (by decide)) (g := (mkF m 43 #[.val (.ref r0), .val (.ref r1), .val (.ref r1)] [.null, .null])) rfl (by rw [hml]; rfl) (argsL := [.null, .null]) (rest := []) (lenOf pd_4 rfl) rfl (by show 2 * 0 + _ ≤ _; exact Nat.le_of_eq rfl) (hb hby d9_43) (fun _ _ => ⟨rfl, e12, (by decide : 0 + 0 ≤ _), (by decide : 0 + 0 ≤ _)⟩)
        dsimp only [Pt.U, Pt.locs, Pt.cells, Pt.slots] at X13 l13 y13 z13 st13 hQ13
        subst l13 y13 z13
        obtain ⟨rfl, Nq13, e13⟩ := hQ13
        have N13 := Fr.app N0 Nq13
        obtain ⟨T14, X14, e14, st14⟩ := getF X13 hx hZ hown (host := "") (Or.inl (hw _ (List.mem_of_getElem? (i := 18) rfl))) Via.refl e13 F_fallback_r0 (g := (mkF m 50 #[.val (.ref r0), .val (.ref r1), .val (.ref r1)] [(.ref r0)])) rfl rfl (hb hby d9_50)
        obtain ⟨T15, X15, e15, st15⟩ := getF X14 hx hZ hown (host := "") (Or.inl (hw _ (List.mem_of_getElem? (i := 18) rfl))) Via.refl e14 F_fallback_r1 (g := (mkF m 54 #[.val (.ref r0), .val (.ref r1), .val (.ref r1)] [(.ref r1), (.int w_fallback_r0)])) rfl rfl (hb hby d9_54)
        have pre16 : ∀ t, Steps p.tables e below (T15.setTop (mkF m 57 #[.val (.ref r0), .val (.ref r1), .val (.ref r1)] [(.int w_fallback_r1), (.int w_fallback_r0)])) t → Steps p.tables e below (s₁.setTop (entryFrame m #[(.ref r0), (.ref r1)] 3)) t := by
          intro t k
          refine pre9 _ ?_
          show Steps p.tables e below (T8.setTop (mkF m 32 #[.val (.ref r0), .val (.ref r1), .val (.ref r1)] [(.int (lcmpW w_remainingTokens_r0 w_remainingTokens_r1))])) _
          refine XS.ifNo X8.here hx rfl (hb hby d9_32) rfl ((if0 _ _).trans (teq ((lw_eq w_remainingTokens_r0 w_remainingTokens_r1).mpr hc32_10)).2) ?_
          show Steps p.tables e below (T8.setTop (mkF m 35 #[.val (.ref r0), .val (.ref r1), .val (.ref r1)] [])) _
          refine XS.aloadN X8.here hx rfl (hb hby d9_35) rfl rfl ?_
          show Steps p.tables e below (T8.setTop (mkF m 36 #[.val (.ref r0), .val (.ref r1), .val (.ref r1)] [(.ref r0)])) _
          refine st11 _ ?_
          show Steps p.tables e below (T11.setTop (mkF m 39 #[.val (.ref r0), .val (.ref r1), .val (.ref r1)] [.null])) _
          refine XS.aloadN X11.here hx rfl (hb hby d9_39) rfl rfl ?_
          show Steps p.tables e below (T11.setTop (mkF m 40 #[.val (.ref r0), .val (.ref r1), .val (.ref r1)] [(.ref r1), .null])) _
          refine st12 _ ?_
          show Steps p.tables e below (T12.setTop (mkF m 43 #[.val (.ref r0), .val (.ref r1), .val (.ref r1)] [.null, .null])) _
          refine st13 _ ?_
          show Steps p.tables e below (T13.setTop (mkF m 46 #[.val (.ref r0), .val (.ref r1), .val (.ref r1)] [(.int (1 : Int32))])) _
          refine XS.ifNo X13.here hx rfl (hb hby d9_46) rfl ((if0 _ _).trans (feq (by decide : ¬ ((1 : Int32) = (0 : Int32)))).1) ?_
          show Steps p.tables e below (T13.setTop (mkF m 49 #[.val (.ref r0), .val (.ref r1), .val (.ref r1)] [])) _
          refine XS.aloadN X13.here hx rfl (hb hby d9_49) rfl rfl ?_
          show Steps p.tables e below (T13.setTop (mkF m 50 #[.val (.ref r0), .val (.ref r1), .val (.ref r1)] [(.ref r0)])) _
          refine st14 _ ?_
          show Steps p.tables e below (T14.setTop (mkF m 53 #[.val (.ref r0), .val (.ref r1), .val (.ref r1)] [(.int w_fallback_r0)])) _
          refine XS.aloadN X14.here hx rfl (hb hby d9_53) rfl rfl ?_
          show Steps p.tables e below (T14.setTop (mkF m 54 #[.val (.ref r0), .val (.ref r1), .val (.ref r1)] [(.ref r1), (.int w_fallback_r0)])) _
          refine st15 _ ?_
          exact k
        by_cases hc57_17 : w_fallback_r0 = w_fallback_r1
        · have pre18 : ∀ t, Steps p.tables e below (T15.setTop (mkF m 65 #[.val (.ref r0), .val (.ref r1), .val (.ref r1)] [(.int (1 : Int32))])) t → Steps p.tables e below (s₁.setTop (entryFrame m #[(.ref r0), (.ref r1)] 3)) t := by
            intro t k
            refine pre16 _ ?_
            show Steps p.tables e below (T15.setTop (mkF m 57 #[.val (.ref r0), .val (.ref r1), .val (.ref r1)] [(.int w_fallback_r1), (.int w_fallback_r0)])) _
            refine XS.icmpNo X15.here hx rfl (hb hby d9_57) rfl (teq hc57_17).2 ?_
            show Steps p.tables e below (T15.setTop (mkF m 60 #[.val (.ref r0), .val (.ref r1), .val (.ref r1)] [])) _
            refine XS.iconst X15.here hx rfl (hb hby d9_60) ?_
            show Steps p.tables e below (T15.setTop (mkF m 61 #[.val (.ref r0), .val (.ref r1), .val (.ref r1)] [(.int (1 : Int32))])) _
            refine XS.goto X15.here hx rfl (pc0 := 61) (pc' := 65) rfl (hb hby d9_61) (by decide) (by decide) ?_
            exact k
          exact ⟨T15, _, X15, N13, e15, fun t k => pre18 t (by rw [show (own_j9_20_0 w_admitted_r0 w_admitted_r1 w_remainingTokens_r0 w_remainingTokens_r1 w_fallback_r0 w_fallback_r1) = (1 : Int32) from ((if_pos hc20_6).trans ((if_pos hc32_10).trans (if_pos hc57_17)))] at k; exact k)⟩
        · have pre19 : ∀ t, Steps p.tables e below (T15.setTop (mkF m 65 #[.val (.ref r0), .val (.ref r1), .val (.ref r1)] [(.int (0 : Int32))])) t → Steps p.tables e below (s₁.setTop (entryFrame m #[(.ref r0), (.ref r1)] 3)) t := by
            intro t k
            refine pre16 _ ?_
            show Steps p.tables e below (T15.setTop (mkF m 57 #[.val (.ref r0), .val (.ref r1), .val (.ref r1)] [(.int w_fallback_r1), (.int w_fallback_r0)])) _
            refine XS.icmpYes X15.here hx rfl (pc0 := 57) (pc' := 64) rfl (hb hby d9_57) rfl (feq hc57_17).2 (by decide) (by decide) ?_
            show Steps p.tables e below (T15.setTop (mkF m 64 #[.val (.ref r0), .val (.ref r1), .val (.ref r1)] [])) _
            refine XS.iconst X15.here hx rfl (hb hby d9_64) ?_
            exact k
          exact ⟨T15, _, X15, N13, e15, fun t k => pre19 t (by rw [show (own_j9_20_0 w_admitted_r0 w_admitted_r1 w_remainingTokens_r0 w_remainingTokens_r1 w_fallback_r0 w_fallback_r1) = (0 : Int32) from ((if_pos hc20_6).trans ((if_pos hc32_10).trans (if_neg hc57_17)))] at k; exact k)⟩
      · have pre20 : ∀ t, Steps p.tables e below (T8.setTop (mkF m 65 #[.val (.ref r0), .val (.ref r1), .val (.ref r1)] [(.int (0 : Int32))])) t → Steps p.tables e below (s₁.setTop (entryFrame m #[(.ref r0), (.ref r1)] 3)) t := by
          intro t k
          refine pre9 _ ?_
          show Steps p.tables e below (T8.setTop (mkF m 32 #[.val (.ref r0), .val (.ref r1), .val (.ref r1)] [(.int (lcmpW w_remainingTokens_r0 w_remainingTokens_r1))])) _
          refine XS.ifYes X8.here hx rfl (pc0 := 32) (pc' := 64) rfl (hb hby d9_32) rfl ((if0 _ _).trans (feq (mt (lw_eq w_remainingTokens_r0 w_remainingTokens_r1).mp hc32_10)).2) (by decide) (by decide) ?_
          show Steps p.tables e below (T8.setTop (mkF m 64 #[.val (.ref r0), .val (.ref r1), .val (.ref r1)] [])) _
          refine XS.iconst X8.here hx rfl (hb hby d9_64) ?_
          exact k
        exact ⟨T8, _, X8, N0, e8, fun t k => pre20 t (by rw [show (own_j9_20_0 w_admitted_r0 w_admitted_r1 w_remainingTokens_r0 w_remainingTokens_r1 w_fallback_r0 w_fallback_r1) = (0 : Int32) from ((if_pos hc20_6).trans (if_neg hc32_10))] at k; exact k)⟩
    · have pre21 : ∀ t, Steps p.tables e below (T4.setTop (mkF m 65 #[.val (.ref r0), .val (.ref r1), .val (.ref r1)] [(.int (0 : Int32))])) t → Steps p.tables e below (s₁.setTop (entryFrame m #[(.ref r0), (.ref r1)] 3)) t := by
        intro t k
        refine pre5 _ ?_
        show Steps p.tables e below (T4.setTop (mkF m 20 #[.val (.ref r0), .val (.ref r1), .val (.ref r1)] [(.int w_admitted_r1), (.int w_admitted_r0)])) _
        refine XS.icmpYes X4.here hx rfl (pc0 := 20) (pc' := 64) rfl (hb hby d9_20) rfl (feq hc20_6).2 (by decide) (by decide) ?_
        show Steps p.tables e below (T4.setTop (mkF m 64 #[.val (.ref r0), .val (.ref r1), .val (.ref r1)] [])) _
        refine XS.iconst X4.here hx rfl (hb hby d9_64) ?_
        exact k
      exact ⟨T4, _, X4, N0, e4, fun t k => pre21 t (by rw [show (own_j9_20_0 w_admitted_r0 w_admitted_r1 w_remainingTokens_r0 w_remainingTokens_r1 w_fallback_r0 w_fallback_r1) = (0 : Int32) from (if_neg hc20_6)] at k; exact k)⟩
  obtain ⟨fs, hr, hrun, hended, hW, hsame⟩ := X22.leave (v := some (.int (nar .boolean (own_j9_20_0 w_admitted_r0 w_admitted_r1 w_remainingTokens_r0 w_remainingTokens_r1 w_fallback_r0 w_fallback_r1)))) (fun h => by rw [Bd.returns] at h; cases h)
  refine ⟨_, _, pre22 _ ?_, hrun, hended, _, _, rfl, ?_, ⟨_, rfl⟩, hW, hsame.mono (by decide) (by decide)⟩
  · show Steps p.tables e below (T22.setTop (mkF m 65 #[.val (.ref r0), .val (.ref r1), .val (.ref r1)] [(.int (own_j9_20_0 w_admitted_r0 w_admitted_r1 w_remainingTokens_r0 w_remainingTokens_r1 w_fallback_r0 w_fallback_r1))])) _
    exact retN X22 hx (t := .boolean) Bd.returns (by simp) (hb hby d9_65) hr
  · show Q9 Z r0 r1 w_admitted_r0 w_admitted_r1 w_remainingTokens_r0 w_remainingTokens_r1 w_fallback_r0 w_fallback_r1 h0 n0 _ T22.heap _
    rw [e22]
    exact ⟨rfl, N22, rfl⟩
def own_j0_4_0 (j1 : Int64) (j2 : Int64) (i3 : Int32) : Int64 := (if (i3 &&& (1 : Int32)) = (0 : Int32) then j2 else j1)
def own_j0_44_0  : Int32 := (if (nar .boolean (nar .boolean (1 : Int32))) = (0 : Int32) then (0 : Int32) else (if (nar .boolean (own_j7_4_0 (nar .boolean (1 : Int32)))) = (0 : Int32) then (if (nar .boolean (nar .boolean (0 : Int32))) = (0 : Int32) then (1 : Int32) else (0 : Int32)) else (0 : Int32)))
def own_j0_101_0 (j1 : Int64) (j2 : Int64) (i3 : Int32) : Int32 := (if j1 = (own_j0_4_0 j1 j2 i3) then (1 : Int32) else (0 : Int32))
def own_j0_87_0 (j1 : Int64) (j2 : Int64) (i3 : Int32) : Int32 := (if (nar .boolean (own_j9_20_0 (nar .boolean (1 : Int32)) (nar .boolean (1 : Int32)) j1 j1 (nar .boolean (0 : Int32)) (nar .boolean (0 : Int32)))) = (0 : Int32) then (0 : Int32) else (if (nar .boolean (own_j9_20_0 (nar .boolean (1 : Int32)) (nar .boolean (1 : Int32)) j1 (own_j0_4_0 j1 j2 i3) (nar .boolean (0 : Int32)) (nar .boolean (0 : Int32)))) = (own_j0_101_0 j1 j2 i3) then (if (nar .boolean (own_j9_20_0 (nar .boolean (1 : Int32)) (nar .boolean (0 : Int32)) j1 j1 (nar .boolean (0 : Int32)) (nar .boolean (0 : Int32)))) = (0 : Int32) then (1 : Int32) else (0 : Int32)) else (0 : Int32)))
def own_j0_131_0 (j1 : Int64) (j2 : Int64) (i3 : Int32) : Int32 := (if own_j0_44_0 = (0 : Int32) then (0 : Int32) else (if (own_j0_87_0 j1 j2 i3) = (0 : Int32) then (0 : Int32) else (1 : Int32)))
def Q0 (Z : State) (j1 : Int64) (j2 : Int64) (i3 : Int32) (h0 : Heap) (n0 : Nat) (v : Option Value) (h : Heap) (L : List Loc) : Prop := v = some (.int (nar .boolean (own_j0_131_0 j1 j2 i3))) ∧ Fr n0 L
theorem ef_0 (m : MethodId) (x0 : Int64) (x1 : Int64) (x2 : Int32) : entryFrame m #[(.long x0), (.long x1), (.int x2)] maxLocals = mkF m 0 #[.val (.long x0), .second, .val (.long x1), .second, .val (.int x2), .unset, .unset, .unset, .unset, .unset, .unset, .unset, .unset] [] := by first | (simp [entryFrame, mkF, argsToLocals, Value.category, maxLocals]; done) | rfl
set_option maxRecDepth 65536 in
set_option maxHeartbeats 40000000 in
theorem rm0 (l : Launch) (Z : State) (a0 : Array Value) (hw : ∀ d ∈ tables_1, d.before a0 Z = true) (ws : List Jvm.Cond) (j1 : Int64) (j2 : Int64) (i3 : Int32) (h0 : Heap) (n0 : Nat) (Z0 : n0 ≤ h0.size) :
    MetFree l x (head1 (Jvm.Cond.code x code maxLocals ret :: ws) room_1) (fun a U => a = #[(.long j1), (.long j2), (.int i3)] ∧ Z.Warmed39 U.vm ∧ U.heap = h0) (fun _ _ _ _ _ => True) (fun _ U o U' => ∃ v L, o = .returned v ∧ Q0 Z j1 j2 i3 h0 n0 v U'.heap L ∧ FrameEnd U o U' L room_1.cells room_1.slots) := by
  refine MetFree.of_bodySF (plainFor_of_name pn_2) hisR ?_
  intro p e s m args below meth c s₁ Bd hml0 hP hK
  obtain ⟨rfl, hZ, hh⟩ := hP
  have hx := Bd.exec
  have hby := Bd.bytes
  have hml : c.maxLocals = 13 := hml0
  have hown : s.vm.findClass "com/example/refill/refill/DecisionAdmittedPinLaw" = some m.cls := findClass_of_methodNamed Bd.named
  have hnm := (name_of_methodNamed Bd.named Bd.method).1
  have X0 : Stand p l e room_1 s m #[(.long j1), (.long j2), (.int i3)] below meth c s₁ [] 0 0 := Stand.of_body Bd
  have e0 : s₁.heap = h0 := by rw [← hh, Bd.state]; rfl
  have N0 := Fr.nil n0
  have pre0 : ∀ t, Steps p.tables e below (s₁.setTop (mkF m 0 #[.val (.long j1), .second, .val (.long j2), .second, .val (.int i3), .unset, .unset, .unset, .unset, .unset, .unset, .unset, .unset] [])) t → Steps p.tables e below (s₁.setTop (entryFrame m #[(.long j1), (.long j2), (.int i3)] maxLocals)) t := fun t k => castTop (ef_0 m j1 j2 i3) k
  have pre1 : ∀ t, Steps p.tables e below (s₁.setTop (mkF m 4 #[.val (.long j1), .second, .val (.long j2), .second, .val (.int i3), .unset, .unset, .unset, .unset, .unset, .unset, .unset, .unset] [(.int (i3 &&& (1 : Int32)))])) t → Steps p.tables e below (s₁.setTop (entryFrame m #[(.long j1), (.long j2), (.int i3)] maxLocals)) t := by
    intro t k
    refine pre0 _ ?_
    show Steps p.tables e below (s₁.setTop (mkF m 0 #[.val (.long j1), .second, .val (.long j2), .second, .val (.int i3), .unset, .unset, .unset, .unset, .unset, .unset, .unset, .unset] [])) _
    refine XS.iload X0.here hx rfl (hb hby at_0) rfl ?_
    show Steps p.tables e below (s₁.setTop (mkF m 2 #[.val (.long j1), .second, .val (.long j2), .second, .val (.int i3), .unset, .unset, .unset, .unset, .unset, .unset, .unset, .unset] [(.int i3)])) _
    refine XS.iconst X0.here hx rfl (hb hby at_2) ?_
    show Steps p.tables e below (s₁.setTop (mkF m 3 #[.val (.long j1), .second, .val (.long j2), .second, .val (.int i3), .unset, .unset, .unset, .unset, .unset, .unset, .unset, .unset] [(.int (1 : Int32)), (.int i3)])) _
    refine XS.iand X0.here hx rfl (hb hby at_3) rfl ?_
    exact k
  have pre5 : ∀ t, Steps p.tables e below (s₁.setTop (mkF m 12 #[.val (.long j1), .second, .val (.long j2), .second, .val (.int i3), .unset, .unset, .unset, .unset, .unset, .unset, .unset, .unset] [(.long (own_j0_4_0 j1 j2 i3))])) t → Steps p.tables e below (s₁.setTop (entryFrame m #[(.long j1), (.long j2), (.int i3)] maxLocals)) t := by
    by_cases hc4_2 : (i3 &&& (1 : Int32)) = (0 : Int32)
    · have pre3 : ∀ t, Steps p.tables e below (s₁.setTop (mkF m 12 #[.val (.long j1), .second, .val (.long j2), .second, .val (.int i3), .unset, .unset, .unset, .unset, .unset, .unset, .unset, .unset] [(.long j2)])) t → Steps p.tables e below (s₁.setTop (entryFrame m #[(.long j1), (.long j2), (.int i3)] maxLocals)) t := by
        intro t k
        refine pre1 _ ?_
        show Steps p.tables e below (s₁.setTop (mkF m 4 #[.val (.long j1), .second, .val (.long j2), .second, .val (.int i3), .unset, .unset, .unset, .unset, .unset, .unset, .unset, .unset] [(.int (i3 &&& (1 : Int32)))])) _
        refine XS.ifYes X0.here hx rfl (pc0 := 4) (pc' := 11) rfl (hb hby at_4) rfl ((if0 _ _).trans (teq hc4_2).1) (by decide) (by decide) ?_
        show Steps p.tables e below (s₁.setTop (mkF m 11 #[.val (.long j1), .second, .val (.long j2), .second, .val (.int i3), .unset, .unset, .unset, .unset, .unset, .unset, .unset, .unset] [])) _
        refine XS.lloadN X0.here hx rfl (hb hby at_11) rfl ?_
        exact k
      exact fun t k => pre3 t (by rw [show (own_j0_4_0 j1 j2 i3) = j2 from (if_pos hc4_2)] at k; exact k)
    · have pre4 : ∀ t, Steps p.tables e below (s₁.setTop (mkF m 12 #[.val (.long j1), .second, .val (.long j2), .second, .val (.int i3), .unset, .unset, .unset, .unset, .unset, .unset, .unset, .unset] [(.long j1)])) t → Steps p.tables e below (s₁.setTop (entryFrame m #[(.long j1), (.long j2), (.int i3)] maxLocals)) t := by
        intro t k
        refine pre1 _ ?_
        show Steps p.tables e below (s₁.setTop (mkF m 4 #[.val (.long j1), .second, .val (.long j2), .second, .val (.int i3), .unset, .unset, .unset, .unset, .unset, .unset, .unset, .unset] [(.int (i3 &&& (1 : Int32)))])) _
        refine XS.ifNo X0.here hx rfl (hb hby at_4) rfl ((if0 _ _).trans (feq hc4_2).1) ?_
        show Steps p.tables e below (s₁.setTop (mkF m 7 #[.val (.long j1), .second, .val (.long j2), .second, .val (.int i3), .unset, .unset, .unset, .unset, .unset, .unset, .unset, .unset] [])) _
        refine XS.lloadN X0.here hx rfl (hb hby at_7) rfl ?_
        show Steps p.tables e below (s₁.setTop (mkF m 8 #[.val (.long j1), .second, .val (.long j2), .second, .val (.int i3), .unset, .unset, .unset, .unset, .unset, .unset, .unset, .unset] [(.long j1)])) _
        refine XS.goto X0.here hx rfl (pc0 := 8) (pc' := 12) rfl (hb hby at_8) (by decide) (by decide) ?_
        exact k
      exact fun t k => pre4 t (by rw [show (own_j0_4_0 j1 j2 i3) = j1 from (if_neg hc4_2)] at k; exact k)
  obtain ⟨_, _, ⟨T6, L6, k6, n6⟩, -, X6, ⟨Lc6, hQ6, l6, y6, z6⟩, st6⟩ := Jvm.LawKit.callS X0 hx (y := (⟨"com/example/refill/refill/Decision", "admitted", "(J)Lcom/example/refill/refill/Decision;"⟩ : MethodName)) hown (mvT hZ (hw _ (List.mem_of_getElem? (i := 0) rfl))) (mvT hZ (hw _ (List.mem_of_getElem? (i := 1) rfl))) (mvT hZ (hw _ (List.mem_of_getElem? (i := 2) rfl))) (mvT hZ (hw _ (List.mem_of_getElem? (i := 3) rfl))) (by decide) (backOf (W := 0) (rm1 l Z a0 hw [] j1 h0 n0 (Nat.le_trans Z0 (Keep.refl h0 []).1) ) hZ (hw _ (List.mem_of_getElem? (i := 3) rfl)) (hw _ (List.mem_of_getElem? (i := 2) rfl)) (by decide) (by decide)) (g := (mkF m 15 #[.val (.long j1), .second, .val (.long j2), .second, .val (.int i3), .val (.long (own_j0_4_0 j1 j2 i3)), .second, .unset, .unset, .unset, .unset, .unset, .unset] [(.long j1)])) rfl (by rw [hml]; rfl) (argsL := [(.long j1)]) (rest := []) (lenOf pd_1 rfl) rfl (by show 2 * 0 + _ ≤ _; exact Nat.le_of_eq rfl) (hb hby at_15) (fun _ _ => ⟨rfl, e0, (by decide : 0 + 1 ≤ _), (by decide : 0 + 4 ≤ _)⟩)
  dsimp only [Pt.U, Pt.locs, Pt.cells, Pt.slots] at X6 l6 y6 z6 st6 hQ6
  subst l6 y6 z6
  obtain ⟨b6_0, rfl, Nq6, Kq6, sq6_0, f6_0, f6_1, f6_2, f6_3, f6_4⟩ := hQ6
  have sz_b6_0 : h0.size ≤ b6_0 := Nat.le_trans (Keep.refl h0 []).1 sq6_0
  have K7 : Keep h0 T6.heap [] := (Keep.refl h0 []).trans Kq6 all0
  have N6 := Fr.app N0 Nq6
  obtain ⟨_, _, ⟨T8, L8, k8, n8⟩, -, X8, ⟨Lc8, hQ8, l8, y8, z8⟩, st8⟩ := Jvm.LawKit.callS X6 hx (y := (⟨"com/example/refill/refill/Decision", "admitted", "(J)Lcom/example/refill/refill/Decision;"⟩ : MethodName)) hown (mvT hZ (hw _ (List.mem_of_getElem? (i := 0) rfl))) (mvT hZ (hw _ (List.mem_of_getElem? (i := 1) rfl))) (mvT hZ (hw _ (List.mem_of_getElem? (i := 2) rfl))) (mvT hZ (hw _ (List.mem_of_getElem? (i := 3) rfl))) (by decide) (backOf (W := 0) (rm1 l Z a0 hw [] j1 T6.heap n0 (Nat.le_trans Z0 K7.1) ) hZ (hw _ (List.mem_of_getElem? (i := 3) rfl)) (hw _ (List.mem_of_getElem? (i := 2) rfl)) (by decide) (by decide)) (g := (mkF m 21 #[.val (.long j1), .second, .val (.long j2), .second, .val (.int i3), .val (.long (own_j0_4_0 j1 j2 i3)), .second, .val (.ref b6_0), .unset, .unset, .unset, .unset, .unset] [(.long j1)])) rfl (by rw [hml]; rfl) (argsL := [(.long j1)]) (rest := []) (lenOf pd_1 rfl) rfl (by show 2 * 0 + _ ≤ _; exact Nat.le_of_eq rfl) (hb hby at_21) (fun _ _ => ⟨rfl, rfl, (by decide : 1 + 1 ≤ _), (by decide : 4 + 4 ≤ _)⟩)
  dsimp only [Pt.U, Pt.locs, Pt.cells, Pt.slots] at X8 l8 y8 z8 st8 hQ8
  subst l8 y8 z8
  obtain ⟨b8_0, rfl, Nq8, Kq8, sq8_0, f8_0, f8_1, f8_2, f8_3, f8_4⟩ := hQ8
  have sz_b8_0 : h0.size ≤ b8_0 := Nat.le_trans K7.1 sq8_0
  have K9 : Keep h0 T8.heap [] := K7.trans Kq8 all0
  have N8 := Fr.app N6 Nq8
  obtain ⟨_, _, ⟨T10, L10, k10, n10⟩, -, X10, ⟨Lc10, hQ10, l10, y10, z10⟩, st10⟩ := Jvm.LawKit.callS X8 hx (y := (⟨"com/example/refill/refill/Decision", "admitted", "(J)Lcom/example/refill/refill/Decision;"⟩ : MethodName)) hown (mvT hZ (hw _ (List.mem_of_getElem? (i := 0) rfl))) (mvT hZ (hw _ (List.mem_of_getElem? (i := 1) rfl))) (mvT hZ (hw _ (List.mem_of_getElem? (i := 2) rfl))) (mvT hZ (hw _ (List.mem_of_getElem? (i := 3) rfl))) (by decide) (backOf (W := 0) (rm1 l Z a0 hw [] (own_j0_4_0 j1 j2 i3) T8.heap n0 (Nat.le_trans Z0 K9.1) ) hZ (hw _ (List.mem_of_getElem? (i := 3) rfl)) (hw _ (List.mem_of_getElem? (i := 2) rfl)) (by decide) (by decide)) (g := (mkF m 28 #[.val (.long j1), .second, .val (.long j2), .second, .val (.int i3), .val (.long (own_j0_4_0 j1 j2 i3)), .second, .val (.ref b6_0), .val (.ref b8_0), .unset, .unset, .unset, .unset] [(.long (own_j0_4_0 j1 j2 i3))])) rfl (by rw [hml]; rfl) (argsL := [(.long (own_j0_4_0 j1 j2 i3))]) (rest := []) (lenOf pd_1 rfl) rfl (by show 2 * 0 + _ ≤ _; exact Nat.le_of_eq rfl) (hb hby at_28) (fun _ _ => ⟨rfl, rfl, (by decide : 2 + 1 ≤ _), (by decide : 8 + 4 ≤ _)⟩)
  dsimp only [Pt.U, Pt.locs, Pt.cells, Pt.slots] at X10 l10 y10 z10 st10 hQ10
  subst l10 y10 z10
  obtain ⟨b10_0, rfl, Nq10, Kq10, sq10_0, f10_0, f10_1, f10_2, f10_3, f10_4⟩ := hQ10
  have sz_b10_0 : h0.size ≤ b10_0 := Nat.le_trans K9.1 sq10_0
  have K11 : Keep h0 T10.heap [] := K9.trans Kq10 all0
  have N10 := Fr.app N8 Nq10
  obtain ⟨_, _, ⟨T12, L12, k12, n12⟩, -, X12, ⟨Lc12, hQ12, l12, y12, z12⟩, st12⟩ := Jvm.LawKit.callS X10 hx (y := (⟨"com/example/refill/refill/Decision", "neverAdmissible", "(J)Lcom/example/refill/refill/Decision;"⟩ : MethodName)) hown (mvT hZ (hw _ (List.mem_of_getElem? (i := 20) rfl))) (mvT hZ (hw _ (List.mem_of_getElem? (i := 21) rfl))) (mvT hZ (hw _ (List.mem_of_getElem? (i := 2) rfl))) (mvT hZ (hw _ (List.mem_of_getElem? (i := 22) rfl))) (by decide) (backOf (W := 0) (rm4 l Z a0 hw [] j1 T10.heap n0 (Nat.le_trans Z0 K11.1) ) hZ (hw _ (List.mem_of_getElem? (i := 22) rfl)) (hw _ (List.mem_of_getElem? (i := 2) rfl)) (by decide) (by decide)) (g := (mkF m 34 #[.val (.long j1), .second, .val (.long j2), .second, .val (.int i3), .val (.long (own_j0_4_0 j1 j2 i3)), .second, .val (.ref b6_0), .val (.ref b8_0), .val (.ref b10_0), .unset, .unset, .unset] [(.long j1)])) rfl (by rw [hml]; rfl) (argsL := [(.long j1)]) (rest := []) (lenOf pd_1 rfl) rfl (by show 2 * 0 + _ ≤ _; exact Nat.le_of_eq rfl) (hb hby at_34) (fun _ _ => ⟨rfl, rfl, (by decide : 3 + 1 ≤ _), (by decide : 12 + 4 ≤ _)⟩)
  dsimp only [Pt.U, Pt.locs, Pt.cells, Pt.slots] at X12 l12 y12 z12 st12 hQ12
  subst l12 y12 z12
  obtain ⟨b12_0, rfl, Nq12, Kq12, sq12_0, f12_0, f12_1, f12_2, f12_3, f12_4⟩ := hQ12
  have sz_b12_0 : h0.size ≤ b12_0 := Nat.le_trans K11.1 sq12_0
  have K13 : Keep h0 T12.heap [] := K11.trans Kq12 all0
  have N12 := Fr.app N10 Nq12
  have f14 := (((f6_1.keep Kq8 nin0).keep Kq10 nin0).keep Kq12 nin0)
  have f16 := (((f6_0.keep Kq8).keep Kq10).keep Kq12)
  obtain ⟨cq15, kq15, q15a, q15b, q15c⟩ := isOf hZ rfl f16
  obtain ⟨_, _, ⟨T15, L15, k15, n15⟩, -, X15, ⟨Lc15, hQ15, l15, y15, z15⟩, st15⟩ := X12.virtualBack hx (y := (⟨"com/example/refill/refill/Decision", "isAdmitted", "()Z"⟩ : MethodName)) (z := (⟨"com/example/refill/refill/Decision", "isAdmitted", "()Z"⟩ : MethodName)) hown (mvT hZ (hw _ (List.mem_of_getElem? (i := 23) rfl))) (mvT hZ (hw _ (List.mem_of_getElem? (i := 24) rfl))) (notFace_of_selects (args := #[]) (mvT hZ (hw _ (List.mem_of_getElem? (i := 26) rfl)))) (mvT hZ (hw _ (List.mem_of_getElem? (i := 26) rfl))) (mvT hZ (hw _ (List.mem_of_getElem? (i := 25) rfl))) (by decide) (backOf (W := 0) (rm5 l Z a0 hw [] b6_0 (nar .boolean (1 : Int32)) T12.heap n0 (Nat.le_trans Z0 K13.1) f14) hZ (hw _ (List.mem_of_getElem? (i := 27) rfl)) (hw _ (List.mem_of_getElem? (i := 2) rfl)) (by decide) (by decide)) q15a q15c (g := (mkF m 41 #[.val (.long j1), .second, .val (.long j2), .second, .val (.int i3), .val (.long (own_j0_4_0 j1 j2 i3)), .second, .val (.ref b6_0), .val (.ref b8_0), .val (.ref b10_0), .val (.ref b12_0), .unset, .unset] [(.ref b6_0)])) rfl (by rw [hml]; rfl) (Steps.refl _) (argsL := []) (rest := []) (lenOf pd_2 rfl) rfl (by show 2 * 0 + _ ≤ _; exact Nat.le_of_eq rfl) (hb hby at_41) (fun _ _ => ⟨rfl, rfl, (by decide : 4 + 0 ≤ _), (by decide : 16 + 0 ≤ _)⟩)
  dsimp only [Pt.U, Pt.locs, Pt.cells, Pt.slots] at X15 l15 y15 z15 st15 hQ15
  subst l15 y15 z15
  obtain ⟨rfl, Nq15, e15⟩ := hQ15
  have N15 := Fr.app N12 Nq15
  have pre17 : ∀ t, Steps p.tables e below (T15.setTop (mkF m 44 #[.val (.long j1), .second, .val (.long j2), .second, .val (.int i3), .val (.long (own_j0_4_0 j1 j2 i3)), .second, .val (.ref b6_0), .val (.ref b8_0), .val (.ref b10_0), .val (.ref b12_0), .unset, .unset] [(.int (nar .boolean (nar .boolean (1 : Int32))))])) t → Steps p.tables e below (s₁.setTop (entryFrame m #[(.long j1), (.long j2), (.int i3)] maxLocals)) t := by
    intro t k
    refine pre5 _ ?_
    show Steps p.tables e below (s₁.setTop (mkF m 12 #[.val (.long j1), .second, .val (.long j2), .second, .val (.int i3), .unset, .unset, .unset, .unset, .unset, .unset, .unset, .unset] [(.long (own_j0_4_0 j1 j2 i3))])) _
    refine XS.lstore X0.here hx rfl (hb hby at_12) rfl (l' := #[.val (.long j1), .second, .val (.long j2), .second, .val (.int i3), .val (.long (own_j0_4_0 j1 j2 i3)), .second, .unset, .unset, .unset, .unset, .unset, .unset]) rfl ?_
    show Steps p.tables e below (s₁.setTop (mkF m 14 #[.val (.long j1), .second, .val (.long j2), .second, .val (.int i3), .val (.long (own_j0_4_0 j1 j2 i3)), .second, .unset, .unset, .unset, .unset, .unset, .unset] [])) _
    refine XS.lloadN X0.here hx rfl (hb hby at_14) rfl ?_
    show Steps p.tables e below (s₁.setTop (mkF m 15 #[.val (.long j1), .second, .val (.long j2), .second, .val (.int i3), .val (.long (own_j0_4_0 j1 j2 i3)), .second, .unset, .unset, .unset, .unset, .unset, .unset] [(.long j1)])) _
    refine st6 _ ?_
    show Steps p.tables e below (T6.setTop (mkF m 18 #[.val (.long j1), .second, .val (.long j2), .second, .val (.int i3), .val (.long (own_j0_4_0 j1 j2 i3)), .second, .unset, .unset, .unset, .unset, .unset, .unset] [(.ref b6_0)])) _
    refine XS.astore X6.here hx rfl (hb hby at_18) rfl rfl (l' := #[.val (.long j1), .second, .val (.long j2), .second, .val (.int i3), .val (.long (own_j0_4_0 j1 j2 i3)), .second, .val (.ref b6_0), .unset, .unset, .unset, .unset, .unset]) rfl ?_
    show Steps p.tables e below (T6.setTop (mkF m 20 #[.val (.long j1), .second, .val (.long j2), .second, .val (.int i3), .val (.long (own_j0_4_0 j1 j2 i3)), .second, .val (.ref b6_0), .unset, .unset, .unset, .unset, .unset] [])) _
    refine XS.lloadN X6.here hx rfl (hb hby at_20) rfl ?_
    show Steps p.tables e below (T6.setTop (mkF m 21 #[.val (.long j1), .second, .val (.long j2), .second, .val (.int i3), .val (.long (own_j0_4_0 j1 j2 i3)), .second, .val (.ref b6_0), .unset, .unset, .unset, .unset, .unset] [(.long j1)])) _
    refine st8 _ ?_
    show Steps p.tables e below (T8.setTop (mkF m 24 #[.val (.long j1), .second, .val (.long j2), .second, .val (.int i3), .val (.long (own_j0_4_0 j1 j2 i3)), .second, .val (.ref b6_0), .unset, .unset, .unset, .unset, .unset] [(.ref b8_0)])) _
    refine XS.astore X8.here hx rfl (hb hby at_24) rfl rfl (l' := #[.val (.long j1), .second, .val (.long j2), .second, .val (.int i3), .val (.long (own_j0_4_0 j1 j2 i3)), .second, .val (.ref b6_0), .val (.ref b8_0), .unset, .unset, .unset, .unset]) rfl ?_
    show Steps p.tables e below (T8.setTop (mkF m 26 #[.val (.long j1), .second, .val (.long j2), .second, .val (.int i3), .val (.long (own_j0_4_0 j1 j2 i3)), .second, .val (.ref b6_0), .val (.ref b8_0), .unset, .unset, .unset, .unset] [])) _
    refine XS.lload X8.here hx rfl (hb hby at_26) rfl ?_
    show Steps p.tables e below (T8.setTop (mkF m 28 #[.val (.long j1), .second, .val (.long j2), .second, .val (.int i3), .val (.long (own_j0_4_0 j1 j2 i3)), .second, .val (.ref b6_0), .val (.ref b8_0), .unset, .unset, .unset, .unset] [(.long (own_j0_4_0 j1 j2 i3))])) _
    refine st10 _ ?_
    show Steps p.tables e below (T10.setTop (mkF m 31 #[.val (.long j1), .second, .val (.long j2), .second, .val (.int i3), .val (.long (own_j0_4_0 j1 j2 i3)), .second, .val (.ref b6_0), .val (.ref b8_0), .unset, .unset, .unset, .unset] [(.ref b10_0)])) _
    refine XS.astore X10.here hx rfl (hb hby at_31) rfl rfl (l' := #[.val (.long j1), .second, .val (.long j2), .second, .val (.int i3), .val (.long (own_j0_4_0 j1 j2 i3)), .second, .val (.ref b6_0), .val (.ref b8_0), .val (.ref b10_0), .unset, .unset, .unset]) rfl ?_
    show Steps p.tables e below (T10.setTop (mkF m 33 #[.val (.long j1), .second, .val (.long j2), .second, .val (.int i3), .val (.long (own_j0_4_0 j1 j2 i3)), .second, .val (.ref b6_0), .val (.ref b8_0), .val (.ref b10_0), .unset, .unset, .unset] [])) _
    refine XS.lloadN X10.here hx rfl (hb hby at_33) rfl ?_
    show Steps p.tables e below (T10.setTop (mkF m 34 #[.val (.long j1), .second, .val (.long j2), .second, .val (.int i3), .val (.long (own_j0_4_0 j1 j2 i3)), .second, .val (.ref b6_0), .val (.ref b8_0), .val (.ref b10_0), .unset, .unset, .unset] [(.long j1)])) _
    refine st12 _ ?_
    show Steps p.tables e below (T12.setTop (mkF m 37 #[.val (.long j1), .second, .val (.long j2), .second, .val (.int i3), .val (.long (own_j0_4_0 j1 j2 i3)), .second, .val (.ref b6_0), .val (.ref b8_0), .val (.ref b10_0), .unset, .unset, .unset] [(.ref b12_0)])) _
    refine XS.astore X12.here hx rfl (hb hby at_37) rfl rfl (l' := #[.val (.long j1), .second, .val (.long j2), .second, .val (.int i3), .val (.long (own_j0_4_0 j1 j2 i3)), .second, .val (.ref b6_0), .val (.ref b8_0), .val (.ref b10_0), .val (.ref b12_0), .unset, .unset]) rfl ?_
    show Steps p.tables e below (T12.setTop (mkF m 39 #[.val (.long j1), .second, .val (.long j2), .second, .val (.int i3), .val (.long (own_j0_4_0 j1 j2 i3)), .second, .val (.ref b6_0), .val (.ref b8_0), .val (.ref b10_0), .val (.ref b12_0), .unset, .unset] [])) _
    refine XS.aload X12.here hx rfl (hb hby at_39) rfl rfl ?_
    show Steps p.tables e below (T12.setTop (mkF m 41 #[.val (.long j1), .second, .val (.long j2), .second, .val (.int i3), .val (.long (own_j0_4_0 j1 j2 i3)), .second, .val (.ref b6_0), .val (.ref b8_0), .val (.ref b10_0), .val (.ref b12_0), .unset, .unset] [(.ref b6_0)])) _
    refine st15.trans ?_
    exact k
  obtain ⟨T33, Lq33, X33, N33, e33, pre33⟩ : ∃ (T' : State) (locs' : List Loc), Stand p l e room_1 s m #[(.long j1), (.long j2), (.int i3)] below meth c T' locs' 4 16 ∧ Fr n0 locs' ∧ T'.heap = T12.heap ∧ ∀ t, Steps p.tables e below (T'.setTop (mkF m 78 #[.val (.long j1), .second, .val (.long j2), .second, .val (.int i3), .val (.long (own_j0_4_0 j1 j2 i3)), .second, .val (.ref b6_0), .val (.ref b8_0), .val (.ref b10_0), .val (.ref b12_0), .unset, .unset] [(.int own_j0_44_0)])) t → Steps p.tables e below (s₁.setTop (entryFrame m #[(.long j1), (.long j2), (.int i3)] maxLocals)) t := by
    by_cases hc44_18 : (nar .boolean (nar .boolean (1 : Int32))) = (0 : Int32)
    · have pre19 : ∀ t, Steps p.tables e below (T15.setTop (mkF m 78 #[.val (.long j1), .second, .val (.long j2), .second, .val (.int i3), .val (.long (own_j0_4_0 j1 j2 i3)), .second, .val (.ref b6_0), .val (.ref b8_0), .val (.ref b10_0), .val (.ref b12_0), .unset, .unset] [(.int (0 : Int32))])) t → Steps p.tables e below (s₁.setTop (entryFrame m #[(.long j1), (.long j2), (.int i3)] maxLocals)) t := by
        intro t k
        refine pre17 _ ?_
        show Steps p.tables e below (T15.setTop (mkF m 44 #[.val (.long j1), .second, .val (.long j2), .second, .val (.int i3), .val (.long (own_j0_4_0 j1 j2 i3)), .second, .val (.ref b6_0), .val (.ref b8_0), .val (.ref b10_0), .val (.ref b12_0), .unset, .unset] [(.int (nar .boolean (nar .boolean (1 : Int32))))])) _
        refine XS.ifYes X15.here hx rfl (pc0 := 44) (pc' := 77) rfl (hb hby at_44) rfl ((if0 _ _).trans (teq hc44_18).1) (by decide) (by decide) ?_
        show Steps p.tables e below (T15.setTop (mkF m 77 #[.val (.long j1), .second, .val (.long j2), .second, .val (.int i3), .val (.long (own_j0_4_0 j1 j2 i3)), .second, .val (.ref b6_0), .val (.ref b8_0), .val (.ref b10_0), .val (.ref b12_0), .unset, .unset] [])) _
        refine XS.iconst X15.here hx rfl (hb hby at_77) ?_
        exact k
      exact ⟨T15, _, X15, N15, e15, fun t k => pre19 t (by rw [show own_j0_44_0 = (0 : Int32) from (if_pos hc44_18)] at k; exact k)⟩
    · have f20 := (((f6_2.keep Kq8 nin0).keep Kq10 nin0).keep Kq12 nin0)
      obtain ⟨cq21, kq21, q21a, q21b, q21c⟩ := isOf hZ e15 f16
      obtain ⟨_, _, ⟨T21, L21, k21, n21⟩, -, X21, ⟨Lc21, hQ21, l21, y21, z21⟩, st21⟩ := X15.virtualBack hx (y := (⟨"com/example/refill/refill/Decision", "remainingTokens", "()J"⟩ : MethodName)) (z := (⟨"com/example/refill/refill/Decision", "remainingTokens", "()J"⟩ : MethodName)) hown (mvT hZ (hw _ (List.mem_of_getElem? (i := 28) rfl))) (mvT hZ (hw _ (List.mem_of_getElem? (i := 29) rfl))) (notFace_of_selects (args := #[]) (mvT hZ (hw _ (List.mem_of_getElem? (i := 31) rfl)))) (mvT hZ (hw _ (List.mem_of_getElem? (i := 31) rfl))) (mvT hZ (hw _ (List.mem_of_getElem? (i := 30) rfl))) (by decide) (backOf (W := 0) (rm6 l Z a0 hw [] b6_0 j1 T12.heap n0 (Nat.le_trans Z0 K13.1) f20) hZ (hw _ (List.mem_of_getElem? (i := 32) rfl)) (hw _ (List.mem_of_getElem? (i := 2) rfl)) (by decide) (by decide)) q21a q21c (g := (mkF m 49 #[.val (.long j1), .second, .val (.long j2), .second, .val (.int i3), .val (.long (own_j0_4_0 j1 j2 i3)), .second, .val (.ref b6_0), .val (.ref b8_0), .val (.ref b10_0), .val (.ref b12_0), .unset, .unset] [(.ref b6_0)])) rfl (by rw [hml]; rfl) (Steps.refl _) (argsL := []) (rest := []) (lenOf pd_3 rfl) rfl (by show 2 * 0 + _ ≤ _; exact Nat.le_of_eq rfl) (hb hby at_49) (fun _ _ => ⟨rfl, e15, (by decide : 4 + 0 ≤ _), (by decide : 16 + 0 ≤ _)⟩)
      dsimp only [Pt.U, Pt.locs, Pt.cells, Pt.slots] at X21 l21 y21 z21 st21 hQ21
      subst l21 y21 z21
      obtain ⟨rfl, Nq21, e21⟩ := hQ21
      have N21 := Fr.app N15 Nq21
      have f22 := (((f6_3.keep Kq8 nin0).keep Kq10 nin0).keep Kq12 nin0)
      obtain ⟨cq23, kq23, q23a, q23b, q23c⟩ := isOf hZ e21 f16
      obtain ⟨_, _, ⟨T23, L23, k23, n23⟩, -, X23, ⟨Lc23, hQ23, l23, y23, z23⟩, st23⟩ := X21.virtualBack hx (y := (⟨"com/example/refill/refill/Decision", "isNeverAdmissible", "()Z"⟩ : MethodName)) (z := (⟨"com/example/refill/refill/Decision", "isNeverAdmissible", "()Z"⟩ : MethodName)) hown (mvT hZ (hw _ (List.mem_of_getElem? (i := 33) rfl))) (mvT hZ (hw _ (List.mem_of_getElem? (i := 34) rfl))) (notFace_of_selects (args := #[]) (mvT hZ (hw _ (List.mem_of_getElem? (i := 36) rfl)))) (mvT hZ (hw _ (List.mem_of_getElem? (i := 36) rfl))) (mvT hZ (hw _ (List.mem_of_getElem? (i := 35) rfl))) (by decide) (backOf (W := 0) (rm7 l Z a0 hw [] b6_0 (nar .boolean (1 : Int32)) T12.heap n0 (Nat.le_trans Z0 K13.1) f14 f22) hZ (hw _ (List.mem_of_getElem? (i := 37) rfl)) (hw _ (List.mem_of_getElem? (i := 2) rfl)) (by decide) (by decide)) q23a q23c (g := (mkF m 59 #[.val (.long j1), .second, .val (.long j2), .second, .val (.int i3), .val (.long (own_j0_4_0 j1 j2 i3)), .second, .val (.ref b6_0), .val (.ref b8_0), .val (.ref b10_0), .val (.ref b12_0), .unset, .unset] [(.ref b6_0)])) rfl (by rw [hml]; rfl) (Steps.refl _) (argsL := []) (rest := []) (lenOf pd_2 rfl) rfl (by show 2 * 0 + _ ≤ _; exact Nat.le_of_eq rfl) (hb hby at_59) (fun _ _ => ⟨rfl, e21, (by decide : 4 + 0 ≤ _), (by decide : 16 + 0 ≤ _)⟩)
      dsimp only [Pt.U, Pt.locs, Pt.cells, Pt.slots] at X23 l23 y23 z23 st23 hQ23
      subst l23 y23 z23
      obtain ⟨rfl, Nq23, e23⟩ := hQ23
      have N23 := Fr.app N21 Nq23
      have pre24 : ∀ t, Steps p.tables e below (T23.setTop (mkF m 62 #[.val (.long j1), .second, .val (.long j2), .second, .val (.int i3), .val (.long (own_j0_4_0 j1 j2 i3)), .second, .val (.ref b6_0), .val (.ref b8_0), .val (.ref b10_0), .val (.ref b12_0), .unset, .unset] [(.int (nar .boolean (own_j7_4_0 (nar .boolean (1 : Int32)))))])) t → Steps p.tables e below (s₁.setTop (entryFrame m #[(.long j1), (.long j2), (.int i3)] maxLocals)) t := by
        intro t k
        refine pre17 _ ?_
        show Steps p.tables e below (T15.setTop (mkF m 44 #[.val (.long j1), .second, .val (.long j2), .second, .val (.int i3), .val (.long (own_j0_4_0 j1 j2 i3)), .second, .val (.ref b6_0), .val (.ref b8_0), .val (.ref b10_0), .val (.ref b12_0), .unset, .unset] [(.int (nar .boolean (nar .boolean (1 : Int32))))])) _
        refine XS.ifNo X15.here hx rfl (hb hby at_44) rfl ((if0 _ _).trans (feq hc44_18).1) ?_
        show Steps p.tables e below (T15.setTop (mkF m 47 #[.val (.long j1), .second, .val (.long j2), .second, .val (.int i3), .val (.long (own_j0_4_0 j1 j2 i3)), .second, .val (.ref b6_0), .val (.ref b8_0), .val (.ref b10_0), .val (.ref b12_0), .unset, .unset] [])) _
        refine XS.aload X15.here hx rfl (hb hby at_47) rfl rfl ?_
        show Steps p.tables e below (T15.setTop (mkF m 49 #[.val (.long j1), .second, .val (.long j2), .second, .val (.int i3), .val (.long (own_j0_4_0 j1 j2 i3)), .second, .val (.ref b6_0), .val (.ref b8_0), .val (.ref b10_0), .val (.ref b12_0), .unset, .unset] [(.ref b6_0)])) _
        refine st21.trans ?_
        show Steps p.tables e below (T21.setTop (mkF m 52 #[.val (.long j1), .second, .val (.long j2), .second, .val (.int i3), .val (.long (own_j0_4_0 j1 j2 i3)), .second, .val (.ref b6_0), .val (.ref b8_0), .val (.ref b10_0), .val (.ref b12_0), .unset, .unset] [(.long j1)])) _
        refine XS.lloadN X21.here hx rfl (hb hby at_52) rfl ?_
        show Steps p.tables e below (T21.setTop (mkF m 53 #[.val (.long j1), .second, .val (.long j2), .second, .val (.int i3), .val (.long (own_j0_4_0 j1 j2 i3)), .second, .val (.ref b6_0), .val (.ref b8_0), .val (.ref b10_0), .val (.ref b12_0), .unset, .unset] [(.long j1), (.long j1)])) _
        refine XS.lcmp X21.here hx rfl (hb hby at_53) rfl ?_
        show Steps p.tables e below (T21.setTop (mkF m 54 #[.val (.long j1), .second, .val (.long j2), .second, .val (.int i3), .val (.long (own_j0_4_0 j1 j2 i3)), .second, .val (.ref b6_0), .val (.ref b8_0), .val (.ref b10_0), .val (.ref b12_0), .unset, .unset] [(.int (lcmpW j1 j1))])) _
        refine XS.ifNo X21.here hx rfl (hb hby at_54) rfl ((if0 _ _).trans (teq ((lw_eq j1 j1).mpr (rfl : j1 = j1))).2) ?_
        show Steps p.tables e below (T21.setTop (mkF m 57 #[.val (.long j1), .second, .val (.long j2), .second, .val (.int i3), .val (.long (own_j0_4_0 j1 j2 i3)), .second, .val (.ref b6_0), .val (.ref b8_0), .val (.ref b10_0), .val (.ref b12_0), .unset, .unset] [])) _
        refine XS.aload X21.here hx rfl (hb hby at_57) rfl rfl ?_
        show Steps p.tables e below (T21.setTop (mkF m 59 #[.val (.long j1), .second, .val (.long j2), .second, .val (.int i3), .val (.long (own_j0_4_0 j1 j2 i3)), .second, .val (.ref b6_0), .val (.ref b8_0), .val (.ref b10_0), .val (.ref b12_0), .unset, .unset] [(.ref b6_0)])) _
        refine st23.trans ?_
        exact k
      by_cases hc62_25 : (nar .boolean (own_j7_4_0 (nar .boolean (1 : Int32)))) = (0 : Int32)
      · have f26 := (((f6_4.keep Kq8 nin0).keep Kq10 nin0).keep Kq12 nin0)
        obtain ⟨cq27, kq27, q27a, q27b, q27c⟩ := isOf hZ e23 f16
        obtain ⟨_, _, ⟨T27, L27, k27, n27⟩, -, X27, ⟨Lc27, hQ27, l27, y27, z27⟩, st27⟩ := X23.virtualBack hx (y := (⟨"com/example/refill/refill/Decision", "isFallback", "()Z"⟩ : MethodName)) (z := (⟨"com/example/refill/refill/Decision", "isFallback", "()Z"⟩ : MethodName)) hown (mvT hZ (hw _ (List.mem_of_getElem? (i := 38) rfl))) (mvT hZ (hw _ (List.mem_of_getElem? (i := 39) rfl))) (notFace_of_selects (args := #[]) (mvT hZ (hw _ (List.mem_of_getElem? (i := 41) rfl)))) (mvT hZ (hw _ (List.mem_of_getElem? (i := 41) rfl))) (mvT hZ (hw _ (List.mem_of_getElem? (i := 40) rfl))) (by decide) (backOf (W := 0) (rm8 l Z a0 hw [] b6_0 (nar .boolean (0 : Int32)) T12.heap n0 (Nat.le_trans Z0 K13.1) f26) hZ (hw _ (List.mem_of_getElem? (i := 42) rfl)) (hw _ (List.mem_of_getElem? (i := 2) rfl)) (by decide) (by decide)) q27a q27c (g := (mkF m 67 #[.val (.long j1), .second, .val (.long j2), .second, .val (.int i3), .val (.long (own_j0_4_0 j1 j2 i3)), .second, .val (.ref b6_0), .val (.ref b8_0), .val (.ref b10_0), .val (.ref b12_0), .unset, .unset] [(.ref b6_0)])) rfl (by rw [hml]; rfl) (Steps.refl _) (argsL := []) (rest := []) (lenOf pd_2 rfl) rfl (by show 2 * 0 + _ ≤ _; exact Nat.le_of_eq rfl) (hb hby at_67) (fun _ _ => ⟨rfl, e23, (by decide : 4 + 0 ≤ _), (by decide : 16 + 0 ≤ _)⟩)
        dsimp only [Pt.U, Pt.locs, Pt.cells, Pt.slots] at X27 l27 y27 z27 st27 hQ27
        subst l27 y27 z27
        obtain ⟨rfl, Nq27, e27⟩ := hQ27
        have N27 := Fr.app N23 Nq27
        have pre28 : ∀ t, Steps p.tables e below (T27.setTop (mkF m 70 #[.val (.long j1), .second, .val (.long j2), .second, .val (.int i3), .val (.long (own_j0_4_0 j1 j2 i3)), .second, .val (.ref b6_0), .val (.ref b8_0), .val (.ref b10_0), .val (.ref b12_0), .unset, .unset] [(.int (nar .boolean (nar .boolean (0 : Int32))))])) t → Steps p.tables e below (s₁.setTop (entryFrame m #[(.long j1), (.long j2), (.int i3)] maxLocals)) t := by
          intro t k
          refine pre24 _ ?_
          show Steps p.tables e below (T23.setTop (mkF m 62 #[.val (.long j1), .second, .val (.long j2), .second, .val (.int i3), .val (.long (own_j0_4_0 j1 j2 i3)), .second, .val (.ref b6_0), .val (.ref b8_0), .val (.ref b10_0), .val (.ref b12_0), .unset, .unset] [(.int (nar .boolean (own_j7_4_0 (nar .boolean (1 : Int32)))))])) _
          refine XS.ifNo X23.here hx rfl (hb hby at_62) rfl ((if0 _ _).trans (teq hc62_25).2) ?_
          show Steps p.tables e below (T23.setTop (mkF m 65 #[.val (.long j1), .second, .val (.long j2), .second, .val (.int i3), .val (.long (own_j0_4_0 j1 j2 i3)), .second, .val (.ref b6_0), .val (.ref b8_0), .val (.ref b10_0), .val (.ref b12_0), .unset, .unset] [])) _
          refine XS.aload X23.here hx rfl (hb hby at_65) rfl rfl ?_
          show Steps p.tables e below (T23.setTop (mkF m 67 #[.val (.long j1), .second, .val (.long j2), .second, .val (.int i3), .val (.long (own_j0_4_0 j1 j2 i3)), .second, .val (.ref b6_0), .val (.ref b8_0), .val (.ref b10_0), .val (.ref b12_0), .unset, .unset] [(.ref b6_0)])) _
          refine st27.trans ?_
          exact k
        by_cases hc70_29 : (nar .boolean (nar .boolean (0 : Int32))) = (0 : Int32)
        · have pre30 : ∀ t, Steps p.tables e below (T27.setTop (mkF m 78 #[.val (.long j1), .second, .val (.long j2), .second, .val (.int i3), .val (.long (own_j0_4_0 j1 j2 i3)), .second, .val (.ref b6_0), .val (.ref b8_0), .val (.ref b10_0), .val (.ref b12_0), .unset, .unset] [(.int (1 : Int32))])) t → Steps p.tables e below (s₁.setTop (entryFrame m #[(.long j1), (.long j2), (.int i3)] maxLocals)) t := by
            intro t k
            refine pre28 _ ?_
            show Steps p.tables e below (T27.setTop (mkF m 70 #[.val (.long j1), .second, .val (.long j2), .second, .val (.int i3), .val (.long (own_j0_4_0 j1 j2 i3)), .second, .val (.ref b6_0), .val (.ref b8_0), .val (.ref b10_0), .val (.ref b12_0), .unset, .unset] [(.int (nar .boolean (nar .boolean (0 : Int32))))])) _
            refine XS.ifNo X27.here hx rfl (hb hby at_70) rfl ((if0 _ _).trans (teq hc70_29).2) ?_
            show Steps p.tables e below (T27.setTop (mkF m 73 #[.val (.long j1), .second, .val (.long j2), .second, .val (.int i3), .val (.long (own_j0_4_0 j1 j2 i3)), .second, .val (.ref b6_0), .val (.ref b8_0), .val (.ref b10_0), .val (.ref b12_0), .unset, .unset] [])) _
            refine XS.iconst X27.here hx rfl (hb hby at_73) ?_
            show Steps p.tables e below (T27.setTop (mkF m 74 #[.val (.long j1), .second, .val (.long j2), .second, .val (.int i3), .val (.long (own_j0_4_0 j1 j2 i3)), .second, .val (.ref b6_0), .val (.ref b8_0), .val (.ref b10_0), .val (.ref b12_0), .unset, .unset] [(.int (1 : Int32))])) _
            refine XS.goto X27.here hx rfl (pc0 := 74) (pc' := 78) rfl (hb hby at_74) (by decide) (by decide) ?_
            exact k
          exact ⟨T27, _, X27, N27, e27, fun t k => pre30 t (by rw [show own_j0_44_0 = (1 : Int32) from ((if_neg hc44_18).trans ((if_pos hc62_25).trans (if_pos hc70_29)))] at k; exact k)⟩
        · have pre31 : ∀ t, Steps p.tables e below (T27.setTop (mkF m 78 #[.val (.long j1), .second, .val (.long j2), .second, .val (.int i3), .val (.long (own_j0_4_0 j1 j2 i3)), .second, .val (.ref b6_0), .val (.ref b8_0), .val (.ref b10_0), .val (.ref b12_0), .unset, .unset] [(.int (0 : Int32))])) t → Steps p.tables e below (s₁.setTop (entryFrame m #[(.long j1), (.long j2), (.int i3)] maxLocals)) t := by
            intro t k
            refine pre28 _ ?_
            show Steps p.tables e below (T27.setTop (mkF m 70 #[.val (.long j1), .second, .val (.long j2), .second, .val (.int i3), .val (.long (own_j0_4_0 j1 j2 i3)), .second, .val (.ref b6_0), .val (.ref b8_0), .val (.ref b10_0), .val (.ref b12_0), .unset, .unset] [(.int (nar .boolean (nar .boolean (0 : Int32))))])) _
            refine XS.ifYes X27.here hx rfl (pc0 := 70) (pc' := 77) rfl (hb hby at_70) rfl ((if0 _ _).trans (feq hc70_29).2) (by decide) (by decide) ?_
            show Steps p.tables e below (T27.setTop (mkF m 77 #[.val (.long j1), .second, .val (.long j2), .second, .val (.int i3), .val (.long (own_j0_4_0 j1 j2 i3)), .second, .val (.ref b6_0), .val (.ref b8_0), .val (.ref b10_0), .val (.ref b12_0), .unset, .unset] [])) _
            refine XS.iconst X27.here hx rfl (hb hby at_77) ?_
            exact k
          exact ⟨T27, _, X27, N27, e27, fun t k => pre31 t (by rw [show own_j0_44_0 = (0 : Int32) from ((if_neg hc44_18).trans ((if_pos hc62_25).trans (if_neg hc70_29)))] at k; exact k)⟩
      · have pre32 : ∀ t, Steps p.tables e below (T23.setTop (mkF m 78 #[.val (.long j1), .second, .val (.long j2), .second, .val (.int i3), .val (.long (own_j0_4_0 j1 j2 i3)), .second, .val (.ref b6_0), .val (.ref b8_0), .val (.ref b10_0), .val (.ref b12_0), .unset, .unset] [(.int (0 : Int32))])) t → Steps p.tables e below (s₁.setTop (entryFrame m #[(.long j1), (.long j2), (.int i3)] maxLocals)) t := by
          intro t k
          refine pre24 _ ?_
          show Steps p.tables e below (T23.setTop (mkF m 62 #[.val (.long j1), .second, .val (.long j2), .second, .val (.int i3), .val (.long (own_j0_4_0 j1 j2 i3)), .second, .val (.ref b6_0), .val (.ref b8_0), .val (.ref b10_0), .val (.ref b12_0), .unset, .unset] [(.int (nar .boolean (own_j7_4_0 (nar .boolean (1 : Int32)))))])) _
          refine XS.ifYes X23.here hx rfl (pc0 := 62) (pc' := 77) rfl (hb hby at_62) rfl ((if0 _ _).trans (feq hc62_25).2) (by decide) (by decide) ?_
          show Steps p.tables e below (T23.setTop (mkF m 77 #[.val (.long j1), .second, .val (.long j2), .second, .val (.int i3), .val (.long (own_j0_4_0 j1 j2 i3)), .second, .val (.ref b6_0), .val (.ref b8_0), .val (.ref b10_0), .val (.ref b12_0), .unset, .unset] [])) _
          refine XS.iconst X23.here hx rfl (hb hby at_77) ?_
          exact k
        exact ⟨T23, _, X23, N23, e23, fun t k => pre32 t (by rw [show own_j0_44_0 = (0 : Int32) from ((if_neg hc44_18).trans (if_neg hc62_25))] at k; exact k)⟩
  have f34 := ((f8_1.keep Kq10 nin0).keep Kq12 nin0)
  have f35 := (((f6_2.keep Kq8 nin0).keep Kq10 nin0).keep Kq12 nin0)
  have f36 := ((f8_2.keep Kq10 nin0).keep Kq12 nin0)
  have f37 := (((f6_3.keep Kq8 nin0).keep Kq10 nin0).keep Kq12 nin0)
  have f38 := ((f8_3.keep Kq10 nin0).keep Kq12 nin0)
  have f39 := (((f6_4.keep Kq8 nin0).keep Kq10 nin0).keep Kq12 nin0)
  have f40 := ((f8_4.keep Kq10 nin0).keep Kq12 nin0)
  have f41 := ((f8_0.keep Kq10).keep Kq12)
  obtain ⟨cq42, kq42, q42a, q42b, q42c⟩ := isOf hZ e33 f16
  obtain ⟨_, _, ⟨T42, L42, k42, n42⟩, -, X42, ⟨Lc42, hQ42, l42, y42, z42⟩, st42⟩ := X33.virtualBack hx (y := (⟨"com/example/refill/refill/Decision", "equals", "(Ljava/lang/Object;)Z"⟩ : MethodName)) (z := (⟨"com/example/refill/refill/Decision", "equals", "(Ljava/lang/Object;)Z"⟩ : MethodName)) hown (mvT hZ (hw _ (List.mem_of_getElem? (i := 43) rfl))) (mvT hZ (hw _ (List.mem_of_getElem? (i := 44) rfl))) (notFace_of_selects (args := #[]) (mvT hZ (hw _ (List.mem_of_getElem? (i := 46) rfl)))) (mvT hZ (hw _ (List.mem_of_getElem? (i := 46) rfl))) (mvT hZ (hw _ (List.mem_of_getElem? (i := 45) rfl))) (by decide) (backOf (W := 0) (rm9 l Z a0 hw [] b6_0 b8_0 (nar .boolean (1 : Int32)) (nar .boolean (1 : Int32)) j1 j1 (nar .boolean (0 : Int32)) (nar .boolean (0 : Int32)) T12.heap n0 (Nat.le_trans Z0 K13.1) f41 f14 f34 f35 f36 f37 f38 f39 f40) hZ (hw _ (List.mem_of_getElem? (i := 47) rfl)) (hw _ (List.mem_of_getElem? (i := 2) rfl)) (by decide) (by decide)) q42a q42c (g := (mkF m 84 #[.val (.long j1), .second, .val (.long j2), .second, .val (.int i3), .val (.long (own_j0_4_0 j1 j2 i3)), .second, .val (.ref b6_0), .val (.ref b8_0), .val (.ref b10_0), .val (.ref b12_0), .val (.int own_j0_44_0), .unset] [(.ref b8_0), (.ref b6_0)])) rfl (by rw [hml]; rfl) (Steps.refl _) (argsL := [(.ref b8_0)]) (rest := []) (lenOf pd_5 rfl) rfl (by show 2 * 0 + _ ≤ _; exact Nat.le_of_eq rfl) (hb hby at_84) (fun _ _ => ⟨rfl, e33, (by decide : 4 + 0 ≤ _), (by decide : 16 + 0 ≤ _)⟩)
  dsimp only [Pt.U, Pt.locs, Pt.cells, Pt.slots] at X42 l42 y42 z42 st42 hQ42
  subst l42 y42 z42
  obtain ⟨rfl, Nq42, e42⟩ := hQ42
  have N42 := Fr.app N33 Nq42
  have pre43 : ∀ t, Steps p.tables e below (T42.setTop (mkF m 87 #[.val (.long j1), .second, .val (.long j2), .second, .val (.int i3), .val (.long (own_j0_4_0 j1 j2 i3)), .second, .val (.ref b6_0), .val (.ref b8_0), .val (.ref b10_0), .val (.ref b12_0), .val (.int own_j0_44_0), .unset] [(.int (nar .boolean (own_j9_20_0 (nar .boolean (1 : Int32)) (nar .boolean (1 : Int32)) j1 j1 (nar .boolean (0 : Int32)) (nar .boolean (0 : Int32)))))])) t → Steps p.tables e below (s₁.setTop (entryFrame m #[(.long j1), (.long j2), (.int i3)] maxLocals)) t := by
    intro t k
    refine pre33 _ ?_
    show Steps p.tables e below (T33.setTop (mkF m 78 #[.val (.long j1), .second, .val (.long j2), .second, .val (.int i3), .val (.long (own_j0_4_0 j1 j2 i3)), .second, .val (.ref b6_0), .val (.ref b8_0), .val (.ref b10_0), .val (.ref b12_0), .unset, .unset] [(.int own_j0_44_0)])) _
    refine XS.istore X33.here hx rfl (hb hby at_78) rfl (l' := #[.val (.long j1), .second, .val (.long j2), .second, .val (.int i3), .val (.long (own_j0_4_0 j1 j2 i3)), .second, .val (.ref b6_0), .val (.ref b8_0), .val (.ref b10_0), .val (.ref b12_0), .val (.int own_j0_44_0), .unset]) rfl ?_
    show Steps p.tables e below (T33.setTop (mkF m 80 #[.val (.long j1), .second, .val (.long j2), .second, .val (.int i3), .val (.long (own_j0_4_0 j1 j2 i3)), .second, .val (.ref b6_0), .val (.ref b8_0), .val (.ref b10_0), .val (.ref b12_0), .val (.int own_j0_44_0), .unset] [])) _
    refine XS.aload X33.here hx rfl (hb hby at_80) rfl rfl ?_
    show Steps p.tables e below (T33.setTop (mkF m 82 #[.val (.long j1), .second, .val (.long j2), .second, .val (.int i3), .val (.long (own_j0_4_0 j1 j2 i3)), .second, .val (.ref b6_0), .val (.ref b8_0), .val (.ref b10_0), .val (.ref b12_0), .val (.int own_j0_44_0), .unset] [(.ref b6_0)])) _
    refine XS.aload X33.here hx rfl (hb hby at_82) rfl rfl ?_
    show Steps p.tables e below (T33.setTop (mkF m 84 #[.val (.long j1), .second, .val (.long j2), .second, .val (.int i3), .val (.long (own_j0_4_0 j1 j2 i3)), .second, .val (.ref b6_0), .val (.ref b8_0), .val (.ref b10_0), .val (.ref b12_0), .val (.int own_j0_44_0), .unset] [(.ref b8_0), (.ref b6_0)])) _
    refine st42.trans ?_
    exact k
  obtain ⟨T64, Lq64, X64, N64, e64, pre64⟩ : ∃ (T' : State) (locs' : List Loc), Stand p l e room_1 s m #[(.long j1), (.long j2), (.int i3)] below meth c T' locs' 4 16 ∧ Fr n0 locs' ∧ T'.heap = T12.heap ∧ ∀ t, Steps p.tables e below (T'.setTop (mkF m 127 #[.val (.long j1), .second, .val (.long j2), .second, .val (.int i3), .val (.long (own_j0_4_0 j1 j2 i3)), .second, .val (.ref b6_0), .val (.ref b8_0), .val (.ref b10_0), .val (.ref b12_0), .val (.int own_j0_44_0), .unset] [(.int (own_j0_87_0 j1 j2 i3))])) t → Steps p.tables e below (s₁.setTop (entryFrame m #[(.long j1), (.long j2), (.int i3)] maxLocals)) t := by
    by_cases hc87_44 : (nar .boolean (own_j9_20_0 (nar .boolean (1 : Int32)) (nar .boolean (1 : Int32)) j1 j1 (nar .boolean (0 : Int32)) (nar .boolean (0 : Int32)))) = (0 : Int32)
    · have pre45 : ∀ t, Steps p.tables e below (T42.setTop (mkF m 127 #[.val (.long j1), .second, .val (.long j2), .second, .val (.int i3), .val (.long (own_j0_4_0 j1 j2 i3)), .second, .val (.ref b6_0), .val (.ref b8_0), .val (.ref b10_0), .val (.ref b12_0), .val (.int own_j0_44_0), .unset] [(.int (0 : Int32))])) t → Steps p.tables e below (s₁.setTop (entryFrame m #[(.long j1), (.long j2), (.int i3)] maxLocals)) t := by
        intro t k
        refine pre43 _ ?_
        show Steps p.tables e below (T42.setTop (mkF m 87 #[.val (.long j1), .second, .val (.long j2), .second, .val (.int i3), .val (.long (own_j0_4_0 j1 j2 i3)), .second, .val (.ref b6_0), .val (.ref b8_0), .val (.ref b10_0), .val (.ref b12_0), .val (.int own_j0_44_0), .unset] [(.int (nar .boolean (own_j9_20_0 (nar .boolean (1 : Int32)) (nar .boolean (1 : Int32)) j1 j1 (nar .boolean (0 : Int32)) (nar .boolean (0 : Int32)))))])) _
        refine XS.ifYes X42.here hx rfl (pc0 := 87) (pc' := 126) rfl (hb hby at_87) rfl ((if0 _ _).trans (teq hc87_44).1) (by decide) (by decide) ?_
        show Steps p.tables e below (T42.setTop (mkF m 126 #[.val (.long j1), .second, .val (.long j2), .second, .val (.int i3), .val (.long (own_j0_4_0 j1 j2 i3)), .second, .val (.ref b6_0), .val (.ref b8_0), .val (.ref b10_0), .val (.ref b12_0), .val (.int own_j0_44_0), .unset] [])) _
        refine XS.iconst X42.here hx rfl (hb hby at_126) ?_
        exact k
      exact ⟨T42, _, X42, N42, e42, fun t k => pre45 t (by rw [show (own_j0_87_0 j1 j2 i3) = (0 : Int32) from (if_pos hc87_44)] at k; exact k)⟩
    · have f46 := (f10_1.keep Kq12 nin0)
      have f47 := (f10_2.keep Kq12 nin0)
      have f48 := (f10_3.keep Kq12 nin0)
      have f49 := (f10_4.keep Kq12 nin0)
      have f50 := (f10_0.keep Kq12)
      obtain ⟨cq51, kq51, q51a, q51b, q51c⟩ := isOf hZ e42 f16
      obtain ⟨_, _, ⟨T51, L51, k51, n51⟩, -, X51, ⟨Lc51, hQ51, l51, y51, z51⟩, st51⟩ := X42.virtualBack hx (y := (⟨"com/example/refill/refill/Decision", "equals", "(Ljava/lang/Object;)Z"⟩ : MethodName)) (z := (⟨"com/example/refill/refill/Decision", "equals", "(Ljava/lang/Object;)Z"⟩ : MethodName)) hown (mvT hZ (hw _ (List.mem_of_getElem? (i := 43) rfl))) (mvT hZ (hw _ (List.mem_of_getElem? (i := 44) rfl))) (notFace_of_selects (args := #[]) (mvT hZ (hw _ (List.mem_of_getElem? (i := 46) rfl)))) (mvT hZ (hw _ (List.mem_of_getElem? (i := 46) rfl))) (mvT hZ (hw _ (List.mem_of_getElem? (i := 45) rfl))) (by decide) (backOf (W := 0) (rm9 l Z a0 hw [] b6_0 b10_0 (nar .boolean (1 : Int32)) (nar .boolean (1 : Int32)) j1 (own_j0_4_0 j1 j2 i3) (nar .boolean (0 : Int32)) (nar .boolean (0 : Int32)) T12.heap n0 (Nat.le_trans Z0 K13.1) f50 f14 f46 f35 f47 f37 f48 f39 f49) hZ (hw _ (List.mem_of_getElem? (i := 47) rfl)) (hw _ (List.mem_of_getElem? (i := 2) rfl)) (by decide) (by decide)) q51a q51c (g := (mkF m 94 #[.val (.long j1), .second, .val (.long j2), .second, .val (.int i3), .val (.long (own_j0_4_0 j1 j2 i3)), .second, .val (.ref b6_0), .val (.ref b8_0), .val (.ref b10_0), .val (.ref b12_0), .val (.int own_j0_44_0), .unset] [(.ref b10_0), (.ref b6_0)])) rfl (by rw [hml]; rfl) (Steps.refl _) (argsL := [(.ref b10_0)]) (rest := []) (lenOf pd_5 rfl) rfl (by show 2 * 0 + _ ≤ _; exact Nat.le_of_eq rfl) (hb hby at_94) (fun _ _ => ⟨rfl, e42, (by decide : 4 + 0 ≤ _), (by decide : 16 + 0 ≤ _)⟩)
      dsimp only [Pt.U, Pt.locs, Pt.cells, Pt.slots] at X51 l51 y51 z51 st51 hQ51
      subst l51 y51 z51
      obtain ⟨rfl, Nq51, e51⟩ := hQ51
      have N51 := Fr.app N42 Nq51
      have pre52 : ∀ t, Steps p.tables e below (T51.setTop (mkF m 101 #[.val (.long j1), .second, .val (.long j2), .second, .val (.int i3), .val (.long (own_j0_4_0 j1 j2 i3)), .second, .val (.ref b6_0), .val (.ref b8_0), .val (.ref b10_0), .val (.ref b12_0), .val (.int own_j0_44_0), .unset] [(.int (lcmpW j1 (own_j0_4_0 j1 j2 i3))), (.int (nar .boolean (own_j9_20_0 (nar .boolean (1 : Int32)) (nar .boolean (1 : Int32)) j1 (own_j0_4_0 j1 j2 i3) (nar .boolean (0 : Int32)) (nar .boolean (0 : Int32)))))])) t → Steps p.tables e below (s₁.setTop (entryFrame m #[(.long j1), (.long j2), (.int i3)] maxLocals)) t := by
        intro t k
        refine pre43 _ ?_
        show Steps p.tables e below (T42.setTop (mkF m 87 #[.val (.long j1), .second, .val (.long j2), .second, .val (.int i3), .val (.long (own_j0_4_0 j1 j2 i3)), .second, .val (.ref b6_0), .val (.ref b8_0), .val (.ref b10_0), .val (.ref b12_0), .val (.int own_j0_44_0), .unset] [(.int (nar .boolean (own_j9_20_0 (nar .boolean (1 : Int32)) (nar .boolean (1 : Int32)) j1 j1 (nar .boolean (0 : Int32)) (nar .boolean (0 : Int32)))))])) _
        refine XS.ifNo X42.here hx rfl (hb hby at_87) rfl ((if0 _ _).trans (feq hc87_44).1) ?_
        show Steps p.tables e below (T42.setTop (mkF m 90 #[.val (.long j1), .second, .val (.long j2), .second, .val (.int i3), .val (.long (own_j0_4_0 j1 j2 i3)), .second, .val (.ref b6_0), .val (.ref b8_0), .val (.ref b10_0), .val (.ref b12_0), .val (.int own_j0_44_0), .unset] [])) _
        refine XS.aload X42.here hx rfl (hb hby at_90) rfl rfl ?_
        show Steps p.tables e below (T42.setTop (mkF m 92 #[.val (.long j1), .second, .val (.long j2), .second, .val (.int i3), .val (.long (own_j0_4_0 j1 j2 i3)), .second, .val (.ref b6_0), .val (.ref b8_0), .val (.ref b10_0), .val (.ref b12_0), .val (.int own_j0_44_0), .unset] [(.ref b6_0)])) _
        refine XS.aload X42.here hx rfl (hb hby at_92) rfl rfl ?_
        show Steps p.tables e below (T42.setTop (mkF m 94 #[.val (.long j1), .second, .val (.long j2), .second, .val (.int i3), .val (.long (own_j0_4_0 j1 j2 i3)), .second, .val (.ref b6_0), .val (.ref b8_0), .val (.ref b10_0), .val (.ref b12_0), .val (.int own_j0_44_0), .unset] [(.ref b10_0), (.ref b6_0)])) _
        refine st51.trans ?_
        show Steps p.tables e below (T51.setTop (mkF m 97 #[.val (.long j1), .second, .val (.long j2), .second, .val (.int i3), .val (.long (own_j0_4_0 j1 j2 i3)), .second, .val (.ref b6_0), .val (.ref b8_0), .val (.ref b10_0), .val (.ref b12_0), .val (.int own_j0_44_0), .unset] [(.int (nar .boolean (own_j9_20_0 (nar .boolean (1 : Int32)) (nar .boolean (1 : Int32)) j1 (own_j0_4_0 j1 j2 i3) (nar .boolean (0 : Int32)) (nar .boolean (0 : Int32)))))])) _
        refine XS.lloadN X51.here hx rfl (hb hby at_97) rfl ?_
        show Steps p.tables e below (T51.setTop (mkF m 98 #[.val (.long j1), .second, .val (.long j2), .second, .val (.int i3), .val (.long (own_j0_4_0 j1 j2 i3)), .second, .val (.ref b6_0), .val (.ref b8_0), .val (.ref b10_0), .val (.ref b12_0), .val (.int own_j0_44_0), .unset] [(.long j1), (.int (nar .boolean (own_j9_20_0 (nar .boolean (1 : Int32)) (nar .boolean (1 : Int32)) j1 (own_j0_4_0 j1 j2 i3) (nar .boolean (0 : Int32)) (nar .boolean (0 : Int32)))))])) _
        refine XS.lload X51.here hx rfl (hb hby at_98) rfl ?_
        show Steps p.tables e below (T51.setTop (mkF m 100 #[.val (.long j1), .second, .val (.long j2), .second, .val (.int i3), .val (.long (own_j0_4_0 j1 j2 i3)), .second, .val (.ref b6_0), .val (.ref b8_0), .val (.ref b10_0), .val (.ref b12_0), .val (.int own_j0_44_0), .unset] [(.long (own_j0_4_0 j1 j2 i3)), (.long j1), (.int (nar .boolean (own_j9_20_0 (nar .boolean (1 : Int32)) (nar .boolean (1 : Int32)) j1 (own_j0_4_0 j1 j2 i3) (nar .boolean (0 : Int32)) (nar .boolean (0 : Int32)))))])) _
        refine XS.lcmp X51.here hx rfl (hb hby at_100) rfl ?_
        exact k
      have pre56 : ∀ t, Steps p.tables e below (T51.setTop (mkF m 109 #[.val (.long j1), .second, .val (.long j2), .second, .val (.int i3), .val (.long (own_j0_4_0 j1 j2 i3)), .second, .val (.ref b6_0), .val (.ref b8_0), .val (.ref b10_0), .val (.ref b12_0), .val (.int own_j0_44_0), .unset] [(.int (own_j0_101_0 j1 j2 i3)), (.int (nar .boolean (own_j9_20_0 (nar .boolean (1 : Int32)) (nar .boolean (1 : Int32)) j1 (own_j0_4_0 j1 j2 i3) (nar .boolean (0 : Int32)) (nar .boolean (0 : Int32)))))])) t → Steps p.tables e below (s₁.setTop (entryFrame m #[(.long j1), (.long j2), (.int i3)] maxLocals)) t := by
        by_cases hc101_53 : j1 = (own_j0_4_0 j1 j2 i3)
        · have pre54 : ∀ t, Steps p.tables e below (T51.setTop (mkF m 109 #[.val (.long j1), .second, .val (.long j2), .second, .val (.int i3), .val (.long (own_j0_4_0 j1 j2 i3)), .second, .val (.ref b6_0), .val (.ref b8_0), .val (.ref b10_0), .val (.ref b12_0), .val (.int own_j0_44_0), .unset] [(.int (1 : Int32)), (.int (nar .boolean (own_j9_20_0 (nar .boolean (1 : Int32)) (nar .boolean (1 : Int32)) j1 (own_j0_4_0 j1 j2 i3) (nar .boolean (0 : Int32)) (nar .boolean (0 : Int32)))))])) t → Steps p.tables e below (s₁.setTop (entryFrame m #[(.long j1), (.long j2), (.int i3)] maxLocals)) t := by
            intro t k
            refine pre52 _ ?_
            show Steps p.tables e below (T51.setTop (mkF m 101 #[.val (.long j1), .second, .val (.long j2), .second, .val (.int i3), .val (.long (own_j0_4_0 j1 j2 i3)), .second, .val (.ref b6_0), .val (.ref b8_0), .val (.ref b10_0), .val (.ref b12_0), .val (.int own_j0_44_0), .unset] [(.int (lcmpW j1 (own_j0_4_0 j1 j2 i3))), (.int (nar .boolean (own_j9_20_0 (nar .boolean (1 : Int32)) (nar .boolean (1 : Int32)) j1 (own_j0_4_0 j1 j2 i3) (nar .boolean (0 : Int32)) (nar .boolean (0 : Int32)))))])) _
            refine XS.ifNo X51.here hx rfl (hb hby at_101) rfl ((if0 _ _).trans (teq ((lw_eq j1 (own_j0_4_0 j1 j2 i3)).mpr hc101_53)).2) ?_
            show Steps p.tables e below (T51.setTop (mkF m 104 #[.val (.long j1), .second, .val (.long j2), .second, .val (.int i3), .val (.long (own_j0_4_0 j1 j2 i3)), .second, .val (.ref b6_0), .val (.ref b8_0), .val (.ref b10_0), .val (.ref b12_0), .val (.int own_j0_44_0), .unset] [(.int (nar .boolean (own_j9_20_0 (nar .boolean (1 : Int32)) (nar .boolean (1 : Int32)) j1 (own_j0_4_0 j1 j2 i3) (nar .boolean (0 : Int32)) (nar .boolean (0 : Int32)))))])) _
            refine XS.iconst X51.here hx rfl (hb hby at_104) ?_
            show Steps p.tables e below (T51.setTop (mkF m 105 #[.val (.long j1), .second, .val (.long j2), .second, .val (.int i3), .val (.long (own_j0_4_0 j1 j2 i3)), .second, .val (.ref b6_0), .val (.ref b8_0), .val (.ref b10_0), .val (.ref b12_0), .val (.int own_j0_44_0), .unset] [(.int (1 : Int32)), (.int (nar .boolean (own_j9_20_0 (nar .boolean (1 : Int32)) (nar .boolean (1 : Int32)) j1 (own_j0_4_0 j1 j2 i3) (nar .boolean (0 : Int32)) (nar .boolean (0 : Int32)))))])) _
            refine XS.goto X51.here hx rfl (pc0 := 105) (pc' := 109) rfl (hb hby at_105) (by decide) (by decide) ?_
            exact k
          exact fun t k => pre54 t (by rw [show (own_j0_101_0 j1 j2 i3) = (1 : Int32) from (if_pos hc101_53)] at k; exact k)
        · have pre55 : ∀ t, Steps p.tables e below (T51.setTop (mkF m 109 #[.val (.long j1), .second, .val (.long j2), .second, .val (.int i3), .val (.long (own_j0_4_0 j1 j2 i3)), .second, .val (.ref b6_0), .val (.ref b8_0), .val (.ref b10_0), .val (.ref b12_0), .val (.int own_j0_44_0), .unset] [(.int (0 : Int32)), (.int (nar .boolean (own_j9_20_0 (nar .boolean (1 : Int32)) (nar .boolean (1 : Int32)) j1 (own_j0_4_0 j1 j2 i3) (nar .boolean (0 : Int32)) (nar .boolean (0 : Int32)))))])) t → Steps p.tables e below (s₁.setTop (entryFrame m #[(.long j1), (.long j2), (.int i3)] maxLocals)) t := by
            intro t k
            refine pre52 _ ?_
            show Steps p.tables e below (T51.setTop (mkF m 101 #[.val (.long j1), .second, .val (.long j2), .second, .val (.int i3), .val (.long (own_j0_4_0 j1 j2 i3)), .second, .val (.ref b6_0), .val (.ref b8_0), .val (.ref b10_0), .val (.ref b12_0), .val (.int own_j0_44_0), .unset] [(.int (lcmpW j1 (own_j0_4_0 j1 j2 i3))), (.int (nar .boolean (own_j9_20_0 (nar .boolean (1 : Int32)) (nar .boolean (1 : Int32)) j1 (own_j0_4_0 j1 j2 i3) (nar .boolean (0 : Int32)) (nar .boolean (0 : Int32)))))])) _
            refine XS.ifYes X51.here hx rfl (pc0 := 101) (pc' := 108) rfl (hb hby at_101) rfl ((if0 _ _).trans (feq (mt (lw_eq j1 (own_j0_4_0 j1 j2 i3)).mp hc101_53)).2) (by decide) (by decide) ?_
            show Steps p.tables e below (T51.setTop (mkF m 108 #[.val (.long j1), .second, .val (.long j2), .second, .val (.int i3), .val (.long (own_j0_4_0 j1 j2 i3)), .second, .val (.ref b6_0), .val (.ref b8_0), .val (.ref b10_0), .val (.ref b12_0), .val (.int own_j0_44_0), .unset] [(.int (nar .boolean (own_j9_20_0 (nar .boolean (1 : Int32)) (nar .boolean (1 : Int32)) j1 (own_j0_4_0 j1 j2 i3) (nar .boolean (0 : Int32)) (nar .boolean (0 : Int32)))))])) _
            refine XS.iconst X51.here hx rfl (hb hby at_108) ?_
            exact k
          exact fun t k => pre55 t (by rw [show (own_j0_101_0 j1 j2 i3) = (0 : Int32) from (if_neg hc101_53)] at k; exact k)
      by_cases hc109_57 : (nar .boolean (own_j9_20_0 (nar .boolean (1 : Int32)) (nar .boolean (1 : Int32)) j1 (own_j0_4_0 j1 j2 i3) (nar .boolean (0 : Int32)) (nar .boolean (0 : Int32)))) = (own_j0_101_0 j1 j2 i3)
      · obtain ⟨cq58, kq58, q58a, q58b, q58c⟩ := isOf hZ e51 f16
        obtain ⟨_, _, ⟨T58, L58, k58, n58⟩, -, X58, ⟨Lc58, hQ58, l58, y58, z58⟩, st58⟩ := X51.virtualBack hx (y := (⟨"com/example/refill/refill/Decision", "equals", "(Ljava/lang/Object;)Z"⟩ : MethodName)) (z := (⟨"com/example/refill/refill/Decision", "equals", "(Ljava/lang/Object;)Z"⟩ : MethodName)) hown (mvT hZ (hw _ (List.mem_of_getElem? (i := 43) rfl))) (mvT hZ (hw _ (List.mem_of_getElem? (i := 44) rfl))) (notFace_of_selects (args := #[]) (mvT hZ (hw _ (List.mem_of_getElem? (i := 46) rfl)))) (mvT hZ (hw _ (List.mem_of_getElem? (i := 46) rfl))) (mvT hZ (hw _ (List.mem_of_getElem? (i := 45) rfl))) (by decide) (backOf (W := 0) (rm9 l Z a0 hw [] b6_0 b12_0 (nar .boolean (1 : Int32)) (nar .boolean (0 : Int32)) j1 j1 (nar .boolean (0 : Int32)) (nar .boolean (0 : Int32)) T12.heap n0 (Nat.le_trans Z0 K13.1) f12_0 f14 f12_1 f35 f12_2 f37 f12_3 f39 f12_4) hZ (hw _ (List.mem_of_getElem? (i := 47) rfl)) (hw _ (List.mem_of_getElem? (i := 2) rfl)) (by decide) (by decide)) q58a q58c (g := (mkF m 116 #[.val (.long j1), .second, .val (.long j2), .second, .val (.int i3), .val (.long (own_j0_4_0 j1 j2 i3)), .second, .val (.ref b6_0), .val (.ref b8_0), .val (.ref b10_0), .val (.ref b12_0), .val (.int own_j0_44_0), .unset] [(.ref b12_0), (.ref b6_0)])) rfl (by rw [hml]; rfl) (Steps.refl _) (argsL := [(.ref b12_0)]) (rest := []) (lenOf pd_5 rfl) rfl (by show 2 * 0 + _ ≤ _; exact Nat.le_of_eq rfl) (hb hby at_116) (fun _ _ => ⟨rfl, e51, (by decide : 4 + 0 ≤ _), (by decide : 16 + 0 ≤ _)⟩)
        dsimp only [Pt.U, Pt.locs, Pt.cells, Pt.slots] at X58 l58 y58 z58 st58 hQ58
        subst l58 y58 z58
        obtain ⟨rfl, Nq58, e58⟩ := hQ58
        have N58 := Fr.app N51 Nq58
        have pre59 : ∀ t, Steps p.tables e below (T58.setTop (mkF m 119 #[.val (.long j1), .second, .val (.long j2), .second, .val (.int i3), .val (.long (own_j0_4_0 j1 j2 i3)), .second, .val (.ref b6_0), .val (.ref b8_0), .val (.ref b10_0), .val (.ref b12_0), .val (.int own_j0_44_0), .unset] [(.int (nar .boolean (own_j9_20_0 (nar .boolean (1 : Int32)) (nar .boolean (0 : Int32)) j1 j1 (nar .boolean (0 : Int32)) (nar .boolean (0 : Int32)))))])) t → Steps p.tables e below (s₁.setTop (entryFrame m #[(.long j1), (.long j2), (.int i3)] maxLocals)) t := by
          intro t k
          refine pre56 _ ?_
          show Steps p.tables e below (T51.setTop (mkF m 109 #[.val (.long j1), .second, .val (.long j2), .second, .val (.int i3), .val (.long (own_j0_4_0 j1 j2 i3)), .second, .val (.ref b6_0), .val (.ref b8_0), .val (.ref b10_0), .val (.ref b12_0), .val (.int own_j0_44_0), .unset] [(.int (own_j0_101_0 j1 j2 i3)), (.int (nar .boolean (own_j9_20_0 (nar .boolean (1 : Int32)) (nar .boolean (1 : Int32)) j1 (own_j0_4_0 j1 j2 i3) (nar .boolean (0 : Int32)) (nar .boolean (0 : Int32)))))])) _
          refine XS.icmpNo X51.here hx rfl (hb hby at_109) rfl (teq hc109_57).2 ?_
          show Steps p.tables e below (T51.setTop (mkF m 112 #[.val (.long j1), .second, .val (.long j2), .second, .val (.int i3), .val (.long (own_j0_4_0 j1 j2 i3)), .second, .val (.ref b6_0), .val (.ref b8_0), .val (.ref b10_0), .val (.ref b12_0), .val (.int own_j0_44_0), .unset] [])) _
          refine XS.aload X51.here hx rfl (hb hby at_112) rfl rfl ?_
          show Steps p.tables e below (T51.setTop (mkF m 114 #[.val (.long j1), .second, .val (.long j2), .second, .val (.int i3), .val (.long (own_j0_4_0 j1 j2 i3)), .second, .val (.ref b6_0), .val (.ref b8_0), .val (.ref b10_0), .val (.ref b12_0), .val (.int own_j0_44_0), .unset] [(.ref b6_0)])) _
          refine XS.aload X51.here hx rfl (hb hby at_114) rfl rfl ?_
          show Steps p.tables e below (T51.setTop (mkF m 116 #[.val (.long j1), .second, .val (.long j2), .second, .val (.int i3), .val (.long (own_j0_4_0 j1 j2 i3)), .second, .val (.ref b6_0), .val (.ref b8_0), .val (.ref b10_0), .val (.ref b12_0), .val (.int own_j0_44_0), .unset] [(.ref b12_0), (.ref b6_0)])) _
          refine st58.trans ?_
          exact k
        by_cases hc119_60 : (nar .boolean (own_j9_20_0 (nar .boolean (1 : Int32)) (nar .boolean (0 : Int32)) j1 j1 (nar .boolean (0 : Int32)) (nar .boolean (0 : Int32)))) = (0 : Int32)
        · have pre61 : ∀ t, Steps p.tables e below (T58.setTop (mkF m 127 #[.val (.long j1), .second, .val (.long j2), .second, .val (.int i3), .val (.long (own_j0_4_0 j1 j2 i3)), .second, .val (.ref b6_0), .val (.ref b8_0), .val (.ref b10_0), .val (.ref b12_0), .val (.int own_j0_44_0), .unset] [(.int (1 : Int32))])) t → Steps p.tables e below (s₁.setTop (entryFrame m #[(.long j1), (.long j2), (.int i3)] maxLocals)) t := by
            intro t k
            refine pre59 _ ?_
            show Steps p.tables e below (T58.setTop (mkF m 119 #[.val (.long j1), .second, .val (.long j2), .second, .val (.int i3), .val (.long (own_j0_4_0 j1 j2 i3)), .second, .val (.ref b6_0), .val (.ref b8_0), .val (.ref b10_0), .val (.ref b12_0), .val (.int own_j0_44_0), .unset] [(.int (nar .boolean (own_j9_20_0 (nar .boolean (1 : Int32)) (nar .boolean (0 : Int32)) j1 j1 (nar .boolean (0 : Int32)) (nar .boolean (0 : Int32)))))])) _
            refine XS.ifNo X58.here hx rfl (hb hby at_119) rfl ((if0 _ _).trans (teq hc119_60).2) ?_
            show Steps p.tables e below (T58.setTop (mkF m 122 #[.val (.long j1), .second, .val (.long j2), .second, .val (.int i3), .val (.long (own_j0_4_0 j1 j2 i3)), .second, .val (.ref b6_0), .val (.ref b8_0), .val (.ref b10_0), .val (.ref b12_0), .val (.int own_j0_44_0), .unset] [])) _
            refine XS.iconst X58.here hx rfl (hb hby at_122) ?_
            show Steps p.tables e below (T58.setTop (mkF m 123 #[.val (.long j1), .second, .val (.long j2), .second, .val (.int i3), .val (.long (own_j0_4_0 j1 j2 i3)), .second, .val (.ref b6_0), .val (.ref b8_0), .val (.ref b10_0), .val (.ref b12_0), .val (.int own_j0_44_0), .unset] [(.int (1 : Int32))])) _
            refine XS.goto X58.here hx rfl (pc0 := 123) (pc' := 127) rfl (hb hby at_123) (by decide) (by decide) ?_
            exact k
          exact ⟨T58, _, X58, N58, e58, fun t k => pre61 t (by rw [show (own_j0_87_0 j1 j2 i3) = (1 : Int32) from ((if_neg hc87_44).trans ((if_pos hc109_57).trans (if_pos hc119_60)))] at k; exact k)⟩
        · have pre62 : ∀ t, Steps p.tables e below (T58.setTop (mkF m 127 #[.val (.long j1), .second, .val (.long j2), .second, .val (.int i3), .val (.long (own_j0_4_0 j1 j2 i3)), .second, .val (.ref b6_0), .val (.ref b8_0), .val (.ref b10_0), .val (.ref b12_0), .val (.int own_j0_44_0), .unset] [(.int (0 : Int32))])) t → Steps p.tables e below (s₁.setTop (entryFrame m #[(.long j1), (.long j2), (.int i3)] maxLocals)) t := by
            intro t k
            refine pre59 _ ?_
            show Steps p.tables e below (T58.setTop (mkF m 119 #[.val (.long j1), .second, .val (.long j2), .second, .val (.int i3), .val (.long (own_j0_4_0 j1 j2 i3)), .second, .val (.ref b6_0), .val (.ref b8_0), .val (.ref b10_0), .val (.ref b12_0), .val (.int own_j0_44_0), .unset] [(.int (nar .boolean (own_j9_20_0 (nar .boolean (1 : Int32)) (nar .boolean (0 : Int32)) j1 j1 (nar .boolean (0 : Int32)) (nar .boolean (0 : Int32)))))])) _
            refine XS.ifYes X58.here hx rfl (pc0 := 119) (pc' := 126) rfl (hb hby at_119) rfl ((if0 _ _).trans (feq hc119_60).2) (by decide) (by decide) ?_
            show Steps p.tables e below (T58.setTop (mkF m 126 #[.val (.long j1), .second, .val (.long j2), .second, .val (.int i3), .val (.long (own_j0_4_0 j1 j2 i3)), .second, .val (.ref b6_0), .val (.ref b8_0), .val (.ref b10_0), .val (.ref b12_0), .val (.int own_j0_44_0), .unset] [])) _
            refine XS.iconst X58.here hx rfl (hb hby at_126) ?_
            exact k
          exact ⟨T58, _, X58, N58, e58, fun t k => pre62 t (by rw [show (own_j0_87_0 j1 j2 i3) = (0 : Int32) from ((if_neg hc87_44).trans ((if_pos hc109_57).trans (if_neg hc119_60)))] at k; exact k)⟩
      · have pre63 : ∀ t, Steps p.tables e below (T51.setTop (mkF m 127 #[.val (.long j1), .second, .val (.long j2), .second, .val (.int i3), .val (.long (own_j0_4_0 j1 j2 i3)), .second, .val (.ref b6_0), .val (.ref b8_0), .val (.ref b10_0), .val (.ref b12_0), .val (.int own_j0_44_0), .unset] [(.int (0 : Int32))])) t → Steps p.tables e below (s₁.setTop (entryFrame m #[(.long j1), (.long j2), (.int i3)] maxLocals)) t := by
          intro t k
          refine pre56 _ ?_
          show Steps p.tables e below (T51.setTop (mkF m 109 #[.val (.long j1), .second, .val (.long j2), .second, .val (.int i3), .val (.long (own_j0_4_0 j1 j2 i3)), .second, .val (.ref b6_0), .val (.ref b8_0), .val (.ref b10_0), .val (.ref b12_0), .val (.int own_j0_44_0), .unset] [(.int (own_j0_101_0 j1 j2 i3)), (.int (nar .boolean (own_j9_20_0 (nar .boolean (1 : Int32)) (nar .boolean (1 : Int32)) j1 (own_j0_4_0 j1 j2 i3) (nar .boolean (0 : Int32)) (nar .boolean (0 : Int32)))))])) _
          refine XS.icmpYes X51.here hx rfl (pc0 := 109) (pc' := 126) rfl (hb hby at_109) rfl (feq hc109_57).2 (by decide) (by decide) ?_
          show Steps p.tables e below (T51.setTop (mkF m 126 #[.val (.long j1), .second, .val (.long j2), .second, .val (.int i3), .val (.long (own_j0_4_0 j1 j2 i3)), .second, .val (.ref b6_0), .val (.ref b8_0), .val (.ref b10_0), .val (.ref b12_0), .val (.int own_j0_44_0), .unset] [])) _
          refine XS.iconst X51.here hx rfl (hb hby at_126) ?_
          exact k
        exact ⟨T51, _, X51, N51, e51, fun t k => pre63 t (by rw [show (own_j0_87_0 j1 j2 i3) = (0 : Int32) from ((if_neg hc87_44).trans (if_neg hc109_57))] at k; exact k)⟩
  have pre65 : ∀ t, Steps p.tables e below (T64.setTop (mkF m 131 #[.val (.long j1), .second, .val (.long j2), .second, .val (.int i3), .val (.long (own_j0_4_0 j1 j2 i3)), .second, .val (.ref b6_0), .val (.ref b8_0), .val (.ref b10_0), .val (.ref b12_0), .val (.int own_j0_44_0), .val (.int (own_j0_87_0 j1 j2 i3))] [(.int own_j0_44_0)])) t → Steps p.tables e below (s₁.setTop (entryFrame m #[(.long j1), (.long j2), (.int i3)] maxLocals)) t := by
    intro t k
    refine pre64 _ ?_
    show Steps p.tables e below (T64.setTop (mkF m 127 #[.val (.long j1), .second, .val (.long j2), .second, .val (.int i3), .val (.long (own_j0_4_0 j1 j2 i3)), .second, .val (.ref b6_0), .val (.ref b8_0), .val (.ref b10_0), .val (.ref b12_0), .val (.int own_j0_44_0), .unset] [(.int (own_j0_87_0 j1 j2 i3))])) _
    refine XS.istore X64.here hx rfl (hb hby at_127) rfl (l' := #[.val (.long j1), .second, .val (.long j2), .second, .val (.int i3), .val (.long (own_j0_4_0 j1 j2 i3)), .second, .val (.ref b6_0), .val (.ref b8_0), .val (.ref b10_0), .val (.ref b12_0), .val (.int own_j0_44_0), .val (.int (own_j0_87_0 j1 j2 i3))]) rfl ?_
    show Steps p.tables e below (T64.setTop (mkF m 129 #[.val (.long j1), .second, .val (.long j2), .second, .val (.int i3), .val (.long (own_j0_4_0 j1 j2 i3)), .second, .val (.ref b6_0), .val (.ref b8_0), .val (.ref b10_0), .val (.ref b12_0), .val (.int own_j0_44_0), .val (.int (own_j0_87_0 j1 j2 i3))] [])) _
    refine XS.iload X64.here hx rfl (hb hby at_129) rfl ?_
    exact k
  have pre72 : ∀ t, Steps p.tables e below (T64.setTop (mkF m 144 #[.val (.long j1), .second, .val (.long j2), .second, .val (.int i3), .val (.long (own_j0_4_0 j1 j2 i3)), .second, .val (.ref b6_0), .val (.ref b8_0), .val (.ref b10_0), .val (.ref b12_0), .val (.int own_j0_44_0), .val (.int (own_j0_87_0 j1 j2 i3))] [(.int (own_j0_131_0 j1 j2 i3))])) t → Steps p.tables e below (s₁.setTop (entryFrame m #[(.long j1), (.long j2), (.int i3)] maxLocals)) t := by
    by_cases hc131_66 : own_j0_44_0 = (0 : Int32)
    · have pre67 : ∀ t, Steps p.tables e below (T64.setTop (mkF m 144 #[.val (.long j1), .second, .val (.long j2), .second, .val (.int i3), .val (.long (own_j0_4_0 j1 j2 i3)), .second, .val (.ref b6_0), .val (.ref b8_0), .val (.ref b10_0), .val (.ref b12_0), .val (.int own_j0_44_0), .val (.int (own_j0_87_0 j1 j2 i3))] [(.int (0 : Int32))])) t → Steps p.tables e below (s₁.setTop (entryFrame m #[(.long j1), (.long j2), (.int i3)] maxLocals)) t := by
        intro t k
        refine pre65 _ ?_
        show Steps p.tables e below (T64.setTop (mkF m 131 #[.val (.long j1), .second, .val (.long j2), .second, .val (.int i3), .val (.long (own_j0_4_0 j1 j2 i3)), .second, .val (.ref b6_0), .val (.ref b8_0), .val (.ref b10_0), .val (.ref b12_0), .val (.int own_j0_44_0), .val (.int (own_j0_87_0 j1 j2 i3))] [(.int own_j0_44_0)])) _
        refine XS.ifYes X64.here hx rfl (pc0 := 131) (pc' := 143) rfl (hb hby at_131) rfl ((if0 _ _).trans (teq hc131_66).1) (by decide) (by decide) ?_
        show Steps p.tables e below (T64.setTop (mkF m 143 #[.val (.long j1), .second, .val (.long j2), .second, .val (.int i3), .val (.long (own_j0_4_0 j1 j2 i3)), .second, .val (.ref b6_0), .val (.ref b8_0), .val (.ref b10_0), .val (.ref b12_0), .val (.int own_j0_44_0), .val (.int (own_j0_87_0 j1 j2 i3))] [])) _
        refine XS.iconst X64.here hx rfl (hb hby at_143) ?_
        exact k
      exact fun t k => pre67 t (by rw [show (own_j0_131_0 j1 j2 i3) = (0 : Int32) from (if_pos hc131_66)] at k; exact k)
    · have pre68 : ∀ t, Steps p.tables e below (T64.setTop (mkF m 136 #[.val (.long j1), .second, .val (.long j2), .second, .val (.int i3), .val (.long (own_j0_4_0 j1 j2 i3)), .second, .val (.ref b6_0), .val (.ref b8_0), .val (.ref b10_0), .val (.ref b12_0), .val (.int own_j0_44_0), .val (.int (own_j0_87_0 j1 j2 i3))] [(.int (own_j0_87_0 j1 j2 i3))])) t → Steps p.tables e below (s₁.setTop (entryFrame m #[(.long j1), (.long j2), (.int i3)] maxLocals)) t := by
        intro t k
        refine pre65 _ ?_
        show Steps p.tables e below (T64.setTop (mkF m 131 #[.val (.long j1), .second, .val (.long j2), .second, .val (.int i3), .val (.long (own_j0_4_0 j1 j2 i3)), .second, .val (.ref b6_0), .val (.ref b8_0), .val (.ref b10_0), .val (.ref b12_0), .val (.int own_j0_44_0), .val (.int (own_j0_87_0 j1 j2 i3))] [(.int own_j0_44_0)])) _
        refine XS.ifNo X64.here hx rfl (hb hby at_131) rfl ((if0 _ _).trans (feq hc131_66).1) ?_
        show Steps p.tables e below (T64.setTop (mkF m 134 #[.val (.long j1), .second, .val (.long j2), .second, .val (.int i3), .val (.long (own_j0_4_0 j1 j2 i3)), .second, .val (.ref b6_0), .val (.ref b8_0), .val (.ref b10_0), .val (.ref b12_0), .val (.int own_j0_44_0), .val (.int (own_j0_87_0 j1 j2 i3))] [])) _
        refine XS.iload X64.here hx rfl (hb hby at_134) rfl ?_
        exact k
      by_cases hc136_69 : (own_j0_87_0 j1 j2 i3) = (0 : Int32)
      · have pre70 : ∀ t, Steps p.tables e below (T64.setTop (mkF m 144 #[.val (.long j1), .second, .val (.long j2), .second, .val (.int i3), .val (.long (own_j0_4_0 j1 j2 i3)), .second, .val (.ref b6_0), .val (.ref b8_0), .val (.ref b10_0), .val (.ref b12_0), .val (.int own_j0_44_0), .val (.int (own_j0_87_0 j1 j2 i3))] [(.int (0 : Int32))])) t → Steps p.tables e below (s₁.setTop (entryFrame m #[(.long j1), (.long j2), (.int i3)] maxLocals)) t := by
          intro t k
          refine pre68 _ ?_
          show Steps p.tables e below (T64.setTop (mkF m 136 #[.val (.long j1), .second, .val (.long j2), .second, .val (.int i3), .val (.long (own_j0_4_0 j1 j2 i3)), .second, .val (.ref b6_0), .val (.ref b8_0), .val (.ref b10_0), .val (.ref b12_0), .val (.int own_j0_44_0), .val (.int (own_j0_87_0 j1 j2 i3))] [(.int (own_j0_87_0 j1 j2 i3))])) _
          refine XS.ifYes X64.here hx rfl (pc0 := 136) (pc' := 143) rfl (hb hby at_136) rfl ((if0 _ _).trans (teq hc136_69).1) (by decide) (by decide) ?_
          show Steps p.tables e below (T64.setTop (mkF m 143 #[.val (.long j1), .second, .val (.long j2), .second, .val (.int i3), .val (.long (own_j0_4_0 j1 j2 i3)), .second, .val (.ref b6_0), .val (.ref b8_0), .val (.ref b10_0), .val (.ref b12_0), .val (.int own_j0_44_0), .val (.int (own_j0_87_0 j1 j2 i3))] [])) _
          refine XS.iconst X64.here hx rfl (hb hby at_143) ?_
          exact k
        exact fun t k => pre70 t (by rw [show (own_j0_131_0 j1 j2 i3) = (0 : Int32) from ((if_neg hc131_66).trans (if_pos hc136_69))] at k; exact k)
      · have pre71 : ∀ t, Steps p.tables e below (T64.setTop (mkF m 144 #[.val (.long j1), .second, .val (.long j2), .second, .val (.int i3), .val (.long (own_j0_4_0 j1 j2 i3)), .second, .val (.ref b6_0), .val (.ref b8_0), .val (.ref b10_0), .val (.ref b12_0), .val (.int own_j0_44_0), .val (.int (own_j0_87_0 j1 j2 i3))] [(.int (1 : Int32))])) t → Steps p.tables e below (s₁.setTop (entryFrame m #[(.long j1), (.long j2), (.int i3)] maxLocals)) t := by
          intro t k
          refine pre68 _ ?_
          show Steps p.tables e below (T64.setTop (mkF m 136 #[.val (.long j1), .second, .val (.long j2), .second, .val (.int i3), .val (.long (own_j0_4_0 j1 j2 i3)), .second, .val (.ref b6_0), .val (.ref b8_0), .val (.ref b10_0), .val (.ref b12_0), .val (.int own_j0_44_0), .val (.int (own_j0_87_0 j1 j2 i3))] [(.int (own_j0_87_0 j1 j2 i3))])) _
          refine XS.ifNo X64.here hx rfl (hb hby at_136) rfl ((if0 _ _).trans (feq hc136_69).1) ?_
          show Steps p.tables e below (T64.setTop (mkF m 139 #[.val (.long j1), .second, .val (.long j2), .second, .val (.int i3), .val (.long (own_j0_4_0 j1 j2 i3)), .second, .val (.ref b6_0), .val (.ref b8_0), .val (.ref b10_0), .val (.ref b12_0), .val (.int own_j0_44_0), .val (.int (own_j0_87_0 j1 j2 i3))] [])) _
          refine XS.iconst X64.here hx rfl (hb hby at_139) ?_
          show Steps p.tables e below (T64.setTop (mkF m 140 #[.val (.long j1), .second, .val (.long j2), .second, .val (.int i3), .val (.long (own_j0_4_0 j1 j2 i3)), .second, .val (.ref b6_0), .val (.ref b8_0), .val (.ref b10_0), .val (.ref b12_0), .val (.int own_j0_44_0), .val (.int (own_j0_87_0 j1 j2 i3))] [(.int (1 : Int32))])) _
          refine XS.goto X64.here hx rfl (pc0 := 140) (pc' := 144) rfl (hb hby at_140) (by decide) (by decide) ?_
          exact k
        exact fun t k => pre71 t (by rw [show (own_j0_131_0 j1 j2 i3) = (1 : Int32) from ((if_neg hc131_66).trans (if_neg hc136_69))] at k; exact k)
  obtain ⟨fs, hr, hrun, hended, hW, hsame⟩ := X64.leave (v := some (.int (nar .boolean (own_j0_131_0 j1 j2 i3)))) (fun h => by rw [Bd.returns] at h; cases h)
  refine ⟨_, _, pre72 _ ?_, hrun, hended, _, _, rfl, ?_, ⟨_, rfl⟩, hW, hsame.mono (by decide) (by decide)⟩
  · show Steps p.tables e below (T64.setTop (mkF m 144 #[.val (.long j1), .second, .val (.long j2), .second, .val (.int i3), .val (.long (own_j0_4_0 j1 j2 i3)), .second, .val (.ref b6_0), .val (.ref b8_0), .val (.ref b10_0), .val (.ref b12_0), .val (.int own_j0_44_0), .val (.int (own_j0_87_0 j1 j2 i3))] [(.int (own_j0_131_0 j1 j2 i3))])) _
    exact retN X64 hx (t := .boolean) Bd.returns (by simp) (hb hby at_144) hr
  · show Q0 Z j1 j2 i3 h0 n0 _ T64.heap _
    rw [e64]
    exact ⟨rfl, N64⟩
theorem own_law (j1 : Int64) (j2 : Int64) (i3 : Int32) : (nar .boolean (own_j0_131_0 j1 j2 i3)) = 1 := by
  apply own_nar1
  by_cases h : j1 = own_j0_4_0 j1 j2 i3
  · have h2 : own_j0_101_0 j1 j2 i3 = 1 := if_pos h
    have h3 : own_j9_20_0 1 1 j1 (own_j0_4_0 j1 j2 i3) 0 0 = 1 := by unfold own_j9_20_0; rw [if_pos rfl, if_pos h, if_pos rfl]
    simp [own_j0_131_0, own_j0_44_0, own_j0_87_0, own_j7_4_0, own_n0, own_n1, h2, h3]
    simp [own_j9_20_0, own_n0, own_n1]
  · have h2 : own_j0_101_0 j1 j2 i3 = 0 := if_neg h
    have h3 : own_j9_20_0 1 1 j1 (own_j0_4_0 j1 j2 i3) 0 0 = 0 := by unfold own_j9_20_0; rw [if_pos rfl, if_neg h]
    simp [own_j0_131_0, own_j0_44_0, own_j0_87_0, own_j7_4_0, own_n0, own_n1, h2, h3]
    simp [own_j9_20_0, own_n0, own_n1]
set_option maxRecDepth 65536 in
set_option maxHeartbeats 40000000 in
theorem comes_1 {Post : Tables → Env → Array Value → State → Outcome → State → Prop} (hpost : ∀ tb e args s v u, (limb_1_1.after args s (.returned v) u = true ∧ limb_1_2.after args s (.returned v) u = true ∧ True) → FrameEnd s (.returned v) u (Jvm.fieldLocs frame_1_writes args s ++ Jvm.arrayLocs frame_1_arrays args s ++ Jvm.staticLocs frame_1_statics s) 16 128 → Post tb e args s (.returned v) u) :
    ArmFor flags0 classFile x code maxLocals ret World_1 tables_1 room_1 Calls_1 rest_1 Pre_1 Post := by
  intro l hfl _ _ p e ha hc hk s m args below hf hA hF happ hP
  obtain ⟨hcalls, hrest, hpre⟩ := hP
  obtain ⟨-, -, -, hnamed, -, -, -, hat⟩ := (Spec.applies_iff hf).mp happ
  obtain ⟨hg, hn⟩ := and_e (Cond.before_iff.mp (show (Jvm.Cond.and given_1 narrow_1).before args s = true from hpre))
  obtain ⟨g1, g2⟩ := and_e hg
  obtain ⟨g3, g4⟩ := and_e g2
  obtain ⟨g5, g6⟩ := and_e g4
  obtain ⟨w0, w1, w2, rfl⟩ : ∃ w0 w1 w2 : Value, args = #[w0, w1, w2] := by
    have hs : args.size = 3 := by simpa [Cond.value, given_1] using g1
    obtain ⟨L⟩ := args
    match L, hs with
    | [w0, w1, w2], _ => exact ⟨w0, w1, w2, rfl⟩
  have hw := fun d (hd : d ∈ tables_1) => atoms_spec (ws := Jvm.Cond.code x code maxLocals ret :: tables_1) hat d (List.mem_cons_of_mem _ hd)
  have hfit : Fit s := fun {y c} hc i hi => by
    obtain ⟨ha, rfl⟩ := Array.getElem?_eq_some_iff.mp hc
    have q := List.all_eq_true.mp ((Array.all_eq_true_iff_forall_mem.mp hF) _ (Array.getElem_mem ha)) i (List.mem_range.mpr hi)
    simpa [Array.getElem?_eq_getElem hi] using q
  obtain ⟨i0, ei0⟩ := isL_v g3
  obtain rfl : w0 = (.long i0) := Option.some.inj ei0
  obtain ⟨i1, ei1⟩ := isL_v g5
  obtain rfl : w1 = (.long i1) := Option.some.inj ei1
  obtain ⟨i2, ei2⟩ := is_v g6
  obtain rfl : w2 = (.int i2) := Option.some.inj ei2
  obtain ⟨n, o, h1, h2, h3, _, L, rfl, ⟨hv, N⟩, hq⟩ := rm0 l s _ hw tables_1 i0 i1 i2 s.heap s.heap.size (Nat.le_refl _)  p e ha hc hk s m _ below hf ((Spec.applies_iff_loose hf).mp happ).1 ⟨rfl, State.Warmed39.refl s, rfl⟩ trivial
  rw [show (nar .boolean (own_j0_131_0 i0 i1 i2)) = 1 from own_law i0 i1 i2] at hv
  subst hv
  refine ⟨n, _, h1, h2, h3, hpost _ _ _ _ _ _ ⟨Cond.after_iff.mpr rfl, Cond.after_iff.mpr (eq_i res_at (Term.int_eval (1)) rfl), trivial⟩ ⟨hq.1, hq.2.1, (hq.2.2.sift fun y hy => Or.inr (N y hy)).mono (by decide) (by decide)⟩⟩
theorem main_1_1 : Claimed_1_1 := comes_1 fun _ _ _ _ _ _ h hF => ⟨h.1, hF⟩
theorem main_1_2 : Claimed_1_2 := comes_1 fun _ _ _ _ _ _ h hF => ⟨h.2.1, hF⟩
end Jvm.Pilot.@@N@@
namespace Jvm.Pilot.@@N@@
open Jvm Jvm.ClassFile Sem Op Lib Jvm.Free Jvm.Stand Jvm.Pilot.@@N@@.Jvm.D
/-! MADE BY PROGRAM (witnessworld.py) out of the Statement's table words and the real class files: 10 classes; the members and pool entries that the words name. The judged class is class 1, her method 1. -/
namespace start1
open Jvm.ClassFile
def u (s : String) : CpInfo := .utf8 (stringToUtf16 s)
/-- a pool by its gaps: so many unusable entries, then the entry; so many at the end -/
def gap : Nat → List CpInfo → List CpInfo
  | 0, r => r
  | n + 1, r => .unusable :: gap n r
def poolList (es : List (Nat × CpInfo)) (last : Nat) : List CpInfo := es.foldr (fun e r => gap e.1 (e.2 :: r)) (gap last [])
def pool (es : List (Nat × CpInfo)) (last : Nat) : Array CpInfo := ⟨poolList es last⟩
def fileOf (pool : Array CpInfo) (this : Nat) (attrs : Array Attribute := #[]) (ms : Array MethodInfo := #[]) (fl : Nat := 33) (sup : Nat := 0) (ifs : Array Nat := #[]) (fds : Array FieldInfo := #[]) : ClassFile where
  minorVersion := 0
  majorVersion := 65
  constantPool := pool
  accessFlags := fl
  thisClass := this
  superClass := sup
  interfaces := ifs
  fields := fds
  methods := ms
  attributes := attrs
def plain (name : String) (sup : Option ClassId) : Class where
  name := name
  kind := .ordinary
  loader := none
  accessFlags := 33
  super := sup
  interfaces := #[]
  cf := none
  fields := #[]
  methods := #[]
  instanceTypes := #[]
  staticTypes := #[]
  resolved := #[]
  callSites := []
  init := .initialized
  statics := none
  mirror := none

def pool0 : Array CpInfo := pool [(5, u "<init>"), (0, u "()V"), (1, .class_ 10), (1, u "java/lang/Object")] 113

def k0c0 : Code := { maxStack := 0, maxLocals := 1, code := object_method_1_code, exceptionTable := #[], attributes := #[] }
def k0m0 : Method := { name := "<init>", desc := "()V", sig := { parameters := [], returnType := none }, accessFlags := 1, code := some k0c0 }
/-- java/lang/Object -/
def k0 : Class := { plain "java/lang/Object" none with
  accessFlags := 33
  interfaces := #[]
  cf := some (fileOf pool0 8 #[] #[{ accessFlags := 1, nameIndex := 5, descriptorIndex := 6, attributes := #[] }] 33 0 #[] #[])
  fields := #[]
  methods := #[k0m0]
  instanceTypes := #[]
  staticTypes := #[]
  resolved := Array.replicate 124 none
  statics := none }

def pool1 : Array CpInfo := pool [(2, .class_ 4), (1, u "java/lang/Object"), (0, u "<init>"), (0, u "()V"), (0, .methodref 8 9), (0, .class_ 10), (0, .nameAndType 11 12), (0, u "com/example/refill/refill/Decision"), (0, u "admitted"), (0, u "(J)Lcom/example/refill/refill/Decision;"), (0, .methodref 8 14), (0, .nameAndType 15 12), (0, u "neverAdmissible"), (0, .methodref 8 17), (0, .nameAndType 18 19), (0, u "isAdmitted"), (0, u "()Z"), (0, .methodref 8 21), (0, .nameAndType 22 23), (0, u "remainingTokens"), (0, u "()J"), (0, .methodref 8 25), (0, .nameAndType 26 19), (0, u "isNeverAdmissible"), (0, .methodref 8 28), (0, .nameAndType 29 19), (0, u "isFallback"), (0, .methodref 8 31), (0, .nameAndType 32 33), (0, u "equals"), (0, u "(Ljava/lang/Object;)Z"), (0, .class_ 35), (0, u "com/example/refill/refill/DecisionAdmittedPinLaw"), (2, u "law"), (0, u "(JJI)Z")] 3

def k1m0 : Method := { name := "<init>", desc := "()V", sig := { parameters := [], returnType := none }, accessFlags := 1, code := none }
def k1c1 : Code := { maxStack := 5, maxLocals := 13, code := code, exceptionTable := #[], attributes := #[] }
def k1m1 : Method := { name := "law", desc := "(JJI)Z", sig := { parameters := [.long, .long, .int], returnType := some .boolean }, accessFlags := 9, code := some k1c1 }
/-- com/example/refill/refill/DecisionAdmittedPinLaw -/
def k1 : Class := { plain "com/example/refill/refill/DecisionAdmittedPinLaw" (some 0) with
  accessFlags := 49
  interfaces := #[]
  cf := some (fileOf pool1 34 #[] #[{ accessFlags := 1, nameIndex := 5, descriptorIndex := 6, attributes := #[] }, { accessFlags := 9, nameIndex := 38, descriptorIndex := 39, attributes := #[] }] 49 2 #[] #[])
  fields := #[]
  methods := #[k1m0, k1m1]
  instanceTypes := #[]
  staticTypes := #[]
  resolved := Array.replicate 43 none
  statics := none }

def pool2 : Array CpInfo := pool [(1, .methodref 2 3), (0, .class_ 4), (0, .nameAndType 5 6), (0, u "java/lang/Object"), (0, u "<init>"), (0, u "()V"), (0, .fieldref 8 9), (0, .class_ 10), (0, .nameAndType 11 12), (0, u "com/example/refill/refill/Decision"), (0, u "admitted"), (0, u "Z"), (0, .fieldref 8 14), (0, .nameAndType 15 16), (0, u "remainingTokens"), (0, u "J"), (0, .fieldref 8 18), (0, .nameAndType 19 20), (0, u "waitTime"), (0, u "Ljava/time/Duration;"), (0, .fieldref 8 22), (0, .nameAndType 23 12), (0, u "fallback"), (0, .methodref 8 25), (0, .nameAndType 5 26), (0, u "(ZJLjava/time/Duration;Z)V"), (1, .class_ 30), (1, u "java/util/Objects"), (10, .methodref 28 42), (0, .nameAndType 43 44), (0, u "equals"), (0, u "(Ljava/lang/Object;Ljava/lang/Object;)Z"), (38, u "(J)Lcom/example/refill/refill/Decision;"), (1, u "neverAdmissible"), (2, u "isAdmitted"), (0, u "()Z"), (0, u "()J"), (3, u "isNeverAdmissible"), (1, u "isFallback"), (0, u "(Ljava/lang/Object;)Z")] 23

def k2c0 : Code := { maxStack := 3, maxLocals := 6, code := prog_6_method_1_code, exceptionTable := #[], attributes := #[] }
def k2m0 : Method := { name := "<init>", desc := "(ZJLjava/time/Duration;Z)V", sig := { parameters := [.boolean, .long, (.object "java/time/Duration"), .boolean], returnType := none }, accessFlags := 2, code := some k2c0 }
def k2c1 : Code := { maxStack := 7, maxLocals := 2, code := prog_6_method_2_code, exceptionTable := #[], attributes := #[] }
def k2m1 : Method := { name := "admitted", desc := "(J)Lcom/example/refill/refill/Decision;", sig := { parameters := [.long], returnType := some (.object "com/example/refill/refill/Decision") }, accessFlags := 8, code := some k2c1 }
def k2c2 : Code := { maxStack := 7, maxLocals := 2, code := prog_6_method_4_code, exceptionTable := #[], attributes := #[] }
def k2m2 : Method := { name := "neverAdmissible", desc := "(J)Lcom/example/refill/refill/Decision;", sig := { parameters := [.long], returnType := some (.object "com/example/refill/refill/Decision") }, accessFlags := 8, code := some k2c2 }
def k2c3 : Code := { maxStack := 1, maxLocals := 1, code := prog_6_method_6_code, exceptionTable := #[], attributes := #[] }
def k2m3 : Method := { name := "isAdmitted", desc := "()Z", sig := { parameters := [], returnType := some .boolean }, accessFlags := 1, code := some k2c3 }
def k2c4 : Code := { maxStack := 2, maxLocals := 1, code := prog_6_method_7_code, exceptionTable := #[], attributes := #[] }
def k2m4 : Method := { name := "remainingTokens", desc := "()J", sig := { parameters := [], returnType := some .long }, accessFlags := 1, code := some k2c4 }
def k2c5 : Code := { maxStack := 1, maxLocals := 1, code := prog_6_method_9_code, exceptionTable := #[], attributes := #[] }
def k2m5 : Method := { name := "isNeverAdmissible", desc := "()Z", sig := { parameters := [], returnType := some .boolean }, accessFlags := 1, code := some k2c5 }
def k2c6 : Code := { maxStack := 1, maxLocals := 1, code := prog_6_method_10_code, exceptionTable := #[], attributes := #[] }
def k2m6 : Method := { name := "isFallback", desc := "()Z", sig := { parameters := [], returnType := some .boolean }, accessFlags := 1, code := some k2c6 }
def k2c7 : Code := { maxStack := 4, maxLocals := 3, code := prog_6_method_11_code, exceptionTable := #[], attributes := #[] }
def k2m7 : Method := { name := "equals", desc := "(Ljava/lang/Object;)Z", sig := { parameters := [(.object "java/lang/Object")], returnType := some .boolean }, accessFlags := 1, code := some k2c7 }
/-- com/example/refill/refill/Decision -/
def k2 : Class := { plain "com/example/refill/refill/Decision" (some 0) with
  accessFlags := 49
  interfaces := #[]
  cf := some (fileOf pool2 8 #[] #[{ accessFlags := 2, nameIndex := 5, descriptorIndex := 26, attributes := #[] }, { accessFlags := 8, nameIndex := 11, descriptorIndex := 83, attributes := #[] }, { accessFlags := 8, nameIndex := 85, descriptorIndex := 83, attributes := #[] }, { accessFlags := 1, nameIndex := 88, descriptorIndex := 89, attributes := #[] }, { accessFlags := 1, nameIndex := 15, descriptorIndex := 90, attributes := #[] }, { accessFlags := 1, nameIndex := 94, descriptorIndex := 89, attributes := #[] }, { accessFlags := 1, nameIndex := 96, descriptorIndex := 89, attributes := #[] }, { accessFlags := 1, nameIndex := 43, descriptorIndex := 97, attributes := #[] }] 49 2 #[] #[{ accessFlags := 18, nameIndex := 11, descriptorIndex := 12, attributes := #[] }, { accessFlags := 18, nameIndex := 15, descriptorIndex := 16, attributes := #[] }, { accessFlags := 18, nameIndex := 19, descriptorIndex := 20, attributes := #[] }, { accessFlags := 18, nameIndex := 23, descriptorIndex := 12, attributes := #[] }])
  fields := #[{ name := "admitted", type := .boolean, accessFlags := 18, slot := 0, constantValue := 0 }, { name := "remainingTokens", type := .long, accessFlags := 18, slot := 1, constantValue := 0 }, { name := "waitTime", type := (.object "java/time/Duration"), accessFlags := 18, slot := 2, constantValue := 0 }, { name := "fallback", type := .boolean, accessFlags := 18, slot := 3, constantValue := 0 }]
  methods := #[k2m0, k2m1, k2m2, k2m3, k2m4, k2m5, k2m6, k2m7]
  instanceTypes := #[.boolean, .long, (.object "java/time/Duration"), .boolean]
  staticTypes := #[]
  resolved := Array.replicate 121 none
  statics := none }

def pool3 : Array CpInfo := pool [(2, .class_ 4), (1, u "java/lang/Object"), (0, u "<init>"), (0, u "()V"), (9, u "equals"), (6, u "(Ljava/lang/Object;Ljava/lang/Object;)Z"), (18, .class_ 44), (1, u "java/util/Objects")] 139

def k3m0 : Method := { name := "<init>", desc := "()V", sig := { parameters := [], returnType := none }, accessFlags := 2, code := none }
def k3c1 : Code := { maxStack := 2, maxLocals := 2, code := jdk_31_method_2_code, exceptionTable := #[], attributes := #[] }
def k3m1 : Method := { name := "equals", desc := "(Ljava/lang/Object;Ljava/lang/Object;)Z", sig := { parameters := [(.object "java/lang/Object"), (.object "java/lang/Object")], returnType := some .boolean }, accessFlags := 9, code := some k3c1 }
/-- java/util/Objects -/
def k3 : Class := { plain "java/util/Objects" (some 0) with
  accessFlags := 49
  interfaces := #[]
  cf := some (fileOf pool3 42 #[] #[{ accessFlags := 2, nameIndex := 5, descriptorIndex := 6, attributes := #[] }, { accessFlags := 9, nameIndex := 16, descriptorIndex := 23, attributes := #[] }] 49 2 #[] #[])
  fields := #[]
  methods := #[k3m0, k3m1]
  instanceTypes := #[]
  staticTypes := #[]
  resolved := Array.replicate 184 none
  statics := none }

def pool4 : Array CpInfo := pool [(1, u "java/lang/Cloneable"), (0, .class_ 1), (0, u "java/lang/Object"), (0, .class_ 3)] 3

/-- java/lang/Cloneable -/
def k4 : Class := { plain "java/lang/Cloneable" (some 0) with
  accessFlags := 1537
  interfaces := #[]
  cf := some (fileOf pool4 2 #[] #[] 1537 4 #[] #[])
  fields := #[]
  methods := #[]
  instanceTypes := #[]
  staticTypes := #[]
  resolved := Array.replicate 8 none
  statics := none }

def pool5 : Array CpInfo := pool [(1, u "java/io/Serializable"), (0, .class_ 1), (0, u "java/lang/Object"), (0, .class_ 3)] 3

/-- java/io/Serializable -/
def k5 : Class := { plain "java/io/Serializable" (some 0) with
  accessFlags := 1537
  interfaces := #[]
  cf := some (fileOf pool5 2 #[] #[] 1537 4 #[] #[])
  fields := #[]
  methods := #[]
  instanceTypes := #[]
  staticTypes := #[]
  resolved := Array.replicate 8 none
  statics := none }

/-- the primitive byte -/
def k6 : Class := { plain "byte" none with kind := .primitive 'B', accessFlags := 0x411 }
/-- [B -/
def k7 : Class := { plain "[B" (some 0) with kind := .array 6 .byte, interfaces := #[4, 5], accessFlags := 1041 }

/-- the primitive int -/
def k8 : Class := { plain "int" none with kind := .primitive 'I', accessFlags := 0x411 }
/-- [I -/
def k9 : Class := { plain "[I" (some 0) with kind := .array 8 .int, interfaces := #[4, 5], accessFlags := 1041 }

def heap : Heap := #[]
def classes : Array Class := #[k0, k1, k2, k3, k4, k5, k6, k7, k8, k9]
def interned : List (Array UInt16 × Addr) := []
def slotsUsed : Nat := 0
def theMethod : MethodId := ⟨1, 1⟩
def args0 : Array Value := #[.long 5, .long 6, .int 7]
def aboutOver (below : List Frame) : State where
  vm := { classes := classes, interned := interned.toArray }
  heap := heap
  slotsUsed := slotsUsed
  threads := #[{ frames := .invoking theMethod args0 :: below }]
def below0 : List Frame := [.native { method := ⟨0, 0⟩, args := #[] }]
def about1 : State := aboutOver below0
def p0 : Program := .bare "" "" ""
def e0 : Env := launch0.env 0 0 0
theorem w_frames : about1.frames = Frame.invoking theMethod args0 :: below0 := rfl
set_option maxRecDepth 65536 in
theorem w_args : argsFit about1.vm theMethod args0 = true := by decide +kernel
set_option maxRecDepth 65536 in
theorem w_heap : heapFits about1 = true := by decide +kernel
set_option maxRecDepth 65536 in
theorem w_runnable : about1.curStatus? = some .runnable := by decide +kernel
set_option maxRecDepth 65536 in
theorem w_alone : about1.alone = true := by decide +kernel
set_option maxRecDepth 65536 in
theorem w_named : about1.methodNamed? x = some theMethod := by decide +kernel
set_option maxRecDepth 65536 in
theorem w_hears : about1.hears theMethod below0 = true := by decide +kernel
set_option maxRecDepth 65536 in
theorem w_ripe : about1.ripe theMethod args0 below0 = true := by decide +kernel
theorem w_running : about1.status = .running := rfl
set_option maxRecDepth 65536 in
theorem w_room : about1.hasRoom e0.platform room_1 = true :=
  launch0.hasRoom_least _ room_1 (by decide +kernel) (by decide +kernel) (by decide +kernel) (by decide +kernel) (by decide +kernel) (by decide +kernel)
theorem allAtoms_all (ts : List Jvm.Cond) (a : Array Jvm.Value) (st : Jvm.State) : (allAtoms ts).before a st = ts.all (fun c => c.before a st) := by
  induction ts with
  | nil => rfl
  | cons c t ih =>
    show (Jvm.Cond.and c (allAtoms t)).before a st = _
    rw [Jvm.Cond.before_and, ih, List.all_cons]
def words1 : List Jvm.Cond := Jvm.Cond.code x code maxLocals ret :: tables_1
/-- a 'code' word, met by the world's own term for the bytes: nothing is compared byte by byte -/
theorem code_word {y : MethodName} {bytes : ByteArray} {mx : Nat} {rt : Option FieldType} {a : Array Value} {s : State} {m : MethodId} {meth : Method} {c : Code} (h1 : s.methodNamed? y = some m) (h2 : s.vm.method? m = some meth) (h3 : meth.code = some c) (h4 : c.code = bytes)
    (h5 : (c.maxLocals == mx && c.exceptionTable.isEmpty && decide (c.maxStack ≤ mostOperands) && decide (meth.sig.returnType = rt) && !meth.locks && decide (parseMethodDescriptor y.desc = some meth.sig)) = true) : (Jvm.Cond.code y bytes mx rt).before a s = true := by
  simp only [Bool.and_eq_true, beq_iff_eq, Bool.not_eq_true', decide_eq_true_eq] at h5
  obtain ⟨⟨⟨⟨⟨g1, g2⟩, g3⟩, g4⟩, g5⟩, g6⟩ := h5
  simp [Cond.before, Cond.holds, Cond.value, h1, h2, h3, h4, g1, g2, g3, g4, g5, g6]
def isCode : Jvm.Cond → Bool
  | .code _ _ _ _ => true
  | _ => false
theorem all_split {L : List Jvm.Cond} {P : Jvm.Cond → Bool} (h1 : L.all (fun c => isCode c || P c) = true) (h2 : ∀ c ∈ L.filter isCode, P c = true) : L.all P = true := by
  refine List.all_eq_true.mpr fun c hc => ?_
  have h := List.all_eq_true.mp h1 c hc
  rcases Bool.eq_false_or_eq_true (isCode c) with hi | hi
  · exact h2 c (List.mem_filter.mpr ⟨hc, hi⟩)
  · simpa [hi] using h
set_option maxRecDepth 65536 in
theorem w_c0 : (Jvm.Cond.code x code maxLocals ret).before args0 about1 = true := code_word (m := ⟨1, 1⟩) (meth := k1m1) (c := k1c1) (by decide +kernel) rfl rfl rfl (by decide +kernel)
set_option maxRecDepth 65536 in
theorem w_c1 : (Jvm.Cond.code ({ cls := "com/example/refill/refill/Decision", name := "admitted", desc := "(J)Lcom/example/refill/refill/Decision;" } : Jvm.MethodName) prog_6_method_2_code (2 : Nat) (Option.some (Jvm.ClassFile.FieldType.object "com/example/refill/refill/Decision"))).before args0 about1 = true := code_word (m := ⟨2, 1⟩) (meth := k2m1) (c := k2c1) (by decide +kernel) rfl rfl rfl (by decide +kernel)
set_option maxRecDepth 65536 in
theorem w_c2 : (Jvm.Cond.code ({ cls := "com/example/refill/refill/Decision", name := "<init>", desc := "(ZJLjava/time/Duration;Z)V" } : Jvm.MethodName) prog_6_method_1_code (6 : Nat) (Option.none : Option Jvm.ClassFile.FieldType)).before args0 about1 = true := code_word (m := ⟨2, 0⟩) (meth := k2m0) (c := k2c0) (by decide +kernel) rfl rfl rfl (by decide +kernel)
set_option maxRecDepth 65536 in
theorem w_c3 : (Jvm.Cond.code ({ cls := "java/lang/Object", name := "<init>", desc := "()V" } : Jvm.MethodName) object_method_1_code (1 : Nat) (Option.none : Option Jvm.ClassFile.FieldType)).before args0 about1 = true := code_word (m := ⟨0, 0⟩) (meth := k0m0) (c := k0c0) (by decide +kernel) rfl rfl rfl (by decide +kernel)
set_option maxRecDepth 65536 in
theorem w_c4 : (Jvm.Cond.code ({ cls := "com/example/refill/refill/Decision", name := "neverAdmissible", desc := "(J)Lcom/example/refill/refill/Decision;" } : Jvm.MethodName) prog_6_method_4_code (2 : Nat) (Option.some (Jvm.ClassFile.FieldType.object "com/example/refill/refill/Decision"))).before args0 about1 = true := code_word (m := ⟨2, 2⟩) (meth := k2m2) (c := k2c2) (by decide +kernel) rfl rfl rfl (by decide +kernel)
set_option maxRecDepth 65536 in
theorem w_c5 : (Jvm.Cond.code ({ cls := "com/example/refill/refill/Decision", name := "isAdmitted", desc := "()Z" } : Jvm.MethodName) prog_6_method_6_code (1 : Nat) (Option.some Jvm.ClassFile.FieldType.boolean)).before args0 about1 = true := code_word (m := ⟨2, 3⟩) (meth := k2m3) (c := k2c3) (by decide +kernel) rfl rfl rfl (by decide +kernel)
set_option maxRecDepth 65536 in
theorem w_c6 : (Jvm.Cond.code ({ cls := "com/example/refill/refill/Decision", name := "remainingTokens", desc := "()J" } : Jvm.MethodName) prog_6_method_7_code (1 : Nat) (Option.some Jvm.ClassFile.FieldType.long)).before args0 about1 = true := code_word (m := ⟨2, 4⟩) (meth := k2m4) (c := k2c4) (by decide +kernel) rfl rfl rfl (by decide +kernel)
set_option maxRecDepth 65536 in
theorem w_c7 : (Jvm.Cond.code ({ cls := "com/example/refill/refill/Decision", name := "isNeverAdmissible", desc := "()Z" } : Jvm.MethodName) prog_6_method_9_code (1 : Nat) (Option.some Jvm.ClassFile.FieldType.boolean)).before args0 about1 = true := code_word (m := ⟨2, 5⟩) (meth := k2m5) (c := k2c5) (by decide +kernel) rfl rfl rfl (by decide +kernel)
set_option maxRecDepth 65536 in
theorem w_c8 : (Jvm.Cond.code ({ cls := "com/example/refill/refill/Decision", name := "isFallback", desc := "()Z" } : Jvm.MethodName) prog_6_method_10_code (1 : Nat) (Option.some Jvm.ClassFile.FieldType.boolean)).before args0 about1 = true := code_word (m := ⟨2, 6⟩) (meth := k2m6) (c := k2c6) (by decide +kernel) rfl rfl rfl (by decide +kernel)
set_option maxRecDepth 65536 in
theorem w_c9 : (Jvm.Cond.code ({ cls := "com/example/refill/refill/Decision", name := "equals", desc := "(Ljava/lang/Object;)Z" } : Jvm.MethodName) prog_6_method_11_code (3 : Nat) (Option.some Jvm.ClassFile.FieldType.boolean)).before args0 about1 = true := code_word (m := ⟨2, 7⟩) (meth := k2m7) (c := k2c7) (by decide +kernel) rfl rfl rfl (by decide +kernel)
set_option maxRecDepth 65536 in
theorem w_c10 : (Jvm.Cond.code ({ cls := "java/util/Objects", name := "equals", desc := "(Ljava/lang/Object;Ljava/lang/Object;)Z" } : Jvm.MethodName) jdk_31_method_2_code (2 : Nat) (Option.some Jvm.ClassFile.FieldType.boolean)).before args0 about1 = true := code_word (m := ⟨3, 1⟩) (meth := k3m1) (c := k3c1) (by decide +kernel) rfl rfl rfl (by decide +kernel)
def codes1 : List Jvm.Cond := [Jvm.Cond.code x code maxLocals ret, Jvm.Cond.code ({ cls := "com/example/refill/refill/Decision", name := "admitted", desc := "(J)Lcom/example/refill/refill/Decision;" } : Jvm.MethodName) prog_6_method_2_code (2 : Nat) (Option.some (Jvm.ClassFile.FieldType.object "com/example/refill/refill/Decision")), Jvm.Cond.code ({ cls := "com/example/refill/refill/Decision", name := "<init>", desc := "(ZJLjava/time/Duration;Z)V" } : Jvm.MethodName) prog_6_method_1_code (6 : Nat) (Option.none : Option Jvm.ClassFile.FieldType), Jvm.Cond.code ({ cls := "java/lang/Object", name := "<init>", desc := "()V" } : Jvm.MethodName) object_method_1_code (1 : Nat) (Option.none : Option Jvm.ClassFile.FieldType), Jvm.Cond.code ({ cls := "com/example/refill/refill/Decision", name := "neverAdmissible", desc := "(J)Lcom/example/refill/refill/Decision;" } : Jvm.MethodName) prog_6_method_4_code (2 : Nat) (Option.some (Jvm.ClassFile.FieldType.object "com/example/refill/refill/Decision")), Jvm.Cond.code ({ cls := "com/example/refill/refill/Decision", name := "isAdmitted", desc := "()Z" } : Jvm.MethodName) prog_6_method_6_code (1 : Nat) (Option.some Jvm.ClassFile.FieldType.boolean), Jvm.Cond.code ({ cls := "com/example/refill/refill/Decision", name := "remainingTokens", desc := "()J" } : Jvm.MethodName) prog_6_method_7_code (1 : Nat) (Option.some Jvm.ClassFile.FieldType.long), Jvm.Cond.code ({ cls := "com/example/refill/refill/Decision", name := "isNeverAdmissible", desc := "()Z" } : Jvm.MethodName) prog_6_method_9_code (1 : Nat) (Option.some Jvm.ClassFile.FieldType.boolean), Jvm.Cond.code ({ cls := "com/example/refill/refill/Decision", name := "isFallback", desc := "()Z" } : Jvm.MethodName) prog_6_method_10_code (1 : Nat) (Option.some Jvm.ClassFile.FieldType.boolean), Jvm.Cond.code ({ cls := "com/example/refill/refill/Decision", name := "equals", desc := "(Ljava/lang/Object;)Z" } : Jvm.MethodName) prog_6_method_11_code (3 : Nat) (Option.some Jvm.ClassFile.FieldType.boolean), Jvm.Cond.code ({ cls := "java/util/Objects", name := "equals", desc := "(Ljava/lang/Object;Ljava/lang/Object;)Z" } : Jvm.MethodName) jdk_31_method_2_code (2 : Nat) (Option.some Jvm.ClassFile.FieldType.boolean)]
set_option maxRecDepth 65536 in
theorem codes_eq : words1.filter isCode = codes1 := rfl
theorem w_codes : ∀ c ∈ words1.filter isCode, c.before args0 about1 = true := by
  rw [codes_eq]
  intro c hc
  simp only [codes1, List.mem_cons, List.not_mem_nil, or_false] at hc
  rcases hc with rfl | rfl | rfl | rfl | rfl | rfl | rfl | rfl | rfl | rfl | rfl
  · exact w_c0
  · exact w_c1
  · exact w_c2
  · exact w_c3
  · exact w_c4
  · exact w_c5
  · exact w_c6
  · exact w_c7
  · exact w_c8
  · exact w_c9
  · exact w_c10
set_option maxRecDepth 65536 in
theorem w_t1 : (words1.take 24).all (fun c => isCode c || c.before args0 about1) = true := by decide +kernel
set_option maxRecDepth 65536 in
theorem w_t2 : ((words1.drop 24).take 24).all (fun c => isCode c || c.before args0 about1) = true := by decide +kernel
set_option maxRecDepth 65536 in
theorem w_t3 : ((words1.drop 24).drop 24).all (fun c => isCode c || c.before args0 about1) = true := by decide +kernel
theorem w_tables : (allAtoms (Jvm.Cond.code x code maxLocals ret :: tables_1)).before args0 about1 = true := by
  rw [allAtoms_all]
  show words1.all (fun c => c.before args0 about1) = true
  refine all_split ?_ w_codes
  rw [← List.take_append_drop 24 words1, List.all_append, w_t1, ← List.take_append_drop 24 (words1.drop 24), List.all_append, w_t2, w_t3]
  rfl
set_option maxRecDepth 65536 in
theorem w_case : (Jvm.Cond.and given_1 narrow_1).before args0 about1 = true := by decide +kernel
theorem w_applies : (headSpec (Jvm.Cond.code x code maxLocals ret :: tables_1) room_1).applies x e0.platform about1 = true :=
  (Spec.applies_iff w_frames).mpr ⟨w_running, w_runnable, w_alone, w_named, w_hears, w_ripe, w_room, w_tables⟩
theorem atStart : AtStart classFile x code maxLocals ret World_1 tables_1 room_1 Calls_1 rest_1 Pre_1 launch0 p0 e0 about1 theMethod args0 below0 :=
  ⟨lists_1, trivial, launch0.admits_env _ _ _, launch0.least_env, fairChoices_fair.cas, fairChoices_fair.clock, w_frames, w_args, w_heap, w_applies, trivial, trivial, w_case⟩
end start1
theorem witness_1 : WitnessClaimed_1 := ⟨start1.p0, start1.e0, start1.about1, start1.theMethod, start1.args0, start1.below0, start1.atStart⟩
end Jvm.Pilot.@@N@@
